/- The Lean function of spec_packHead and its contract: the Go function comes to exactly what the Lean function answers (laid by the kit's print program). -/
import Derived.Test.YtjnookhdiolhgaaPAllx0
import Derived.Test.YtjnookhdiolhgaaPspecbytesOf
namespace Go.Proofs.Ytjnookhdiolhgaa.PAll
open Go.RowKit Go.Proofs.YtjnookhdiolhgaaW.PrintWords Go.Proofs.YtjnookhdiolhgaaW.PrintLast Go.Proofs.YtjnookhdiolhgaaW.PrintMore
attribute [local go_sem] max2_int min2_int max_two min_two max_three min_three max_four min_four   -- for this text's walks alone
set_option linter.unusedVariables false
set_option linter.unusedSimpArgs false


/-! ### spec_packHead: function 102 -/
def spec_packHead.j0 : Nat → Int → Int → Int → Bool → Option (ByteArray)
  | 0, _, _, _, _ => none
  | k + 1, x0, x1, x2, x7 => if x7 = true then (some (strOfNums (([(x0 + ((x2) % 256)) % 256] : List Int)))) else (if x2 < 256 then (some (strOfNums (([x1, (x2) % 256] : List Int)))) else (if x2 < 65536 then ((some (([(x1 + 1) % 256] : List Int) : List Int)).bind fun y141 => ((spec_bytesOf.f k (IntKind.u64.wrap (x2)) 2).bind fun t144 => (if (strOfNums y141).size + t144.size ≤ 9223372036854775807 then (some ((strOfNums y141) ++ t144)) else (none)))) else ((some (([(x1 + 2) % 256] : List Int) : List Int)).bind fun y145 => ((spec_bytesOf.f k (IntKind.u64.wrap (x2)) 4).bind fun t148 => (if (strOfNums y145).size + t148.size ≤ 9223372036854775807 then (some ((strOfNums y145) ++ t148)) else (none))))))
def spec_packHead.f (k : Nat) (a0 : Int) (a1 : Int) (a2 : Int) : Option (ByteArray) := if a2 < 16 then (spec_packHead.j0 k a0 a1 a2 (a0 != 0)) else (spec_packHead.j0 k a0 a1 a2 false)
theorem spec_packHead.mono_l : ∀ k, (∀ y0 y1 y2 y3, LeO (spec_packHead.j0 k y0 y1 y2 y3) (spec_packHead.j0 (k + 1) y0 y1 y2 y3))
  | 0 => fun _ _ _ _ r h => by simp [spec_packHead.j0] at h
  | k + 1 => by
    have ih0 := spec_packHead.mono_l k
    · intro y0 y1 y2 y3
      unfold spec_packHead.j0
      repeat' first
      | (with_reducible exact ih0 _ _ _ _)
      | (with_reducible exact spec_bytesOf.mono _ _ _)
      | (with_reducible exact LeO.refl _)
      | (with_reducible exact LeO.none _)
      | (with_reducible refine LeO.ite ?_ ?_)
      | (with_reducible refine LeO.bind ?_ (fun _ => ?_))
      | exact ih0 _ _ _ _
      | exact spec_bytesOf.mono _ _ _
      | exact LeO.none _
      | refine LeO.ite ?_ ?_
      | refine LeO.bind ?_ (fun _ => ?_)
theorem spec_packHead.mono : ∀ a0 a1 a2 k, LeO (spec_packHead.f k a0 a1 a2) (spec_packHead.f (k + 1) a0 a1 a2) := by
  intro a0 a1 a2 k
  have ih0 := spec_packHead.mono_l k
  unfold spec_packHead.f
  repeat' first
      | (with_reducible exact ih0 _ _ _ _)
      | (with_reducible exact spec_bytesOf.mono _ _ _)
      | (with_reducible exact LeO.refl _)
      | (with_reducible exact LeO.none _)
      | (with_reducible refine LeO.ite ?_ ?_)
      | (with_reducible refine LeO.bind ?_ (fun _ => ?_))
      | exact ih0 _ _ _ _
      | exact spec_bytesOf.mono _ _ _
      | exact LeO.none _
      | refine LeO.ite ?_ ?_
      | refine LeO.bind ?_ (fun _ => ?_)
def spec_packHead.T6 : Bool × List (List Nat × List Nat) := (true, [([], []), ([0], [0]), ([1], [1]), ([2], [2]), ([], []), ([4], [4]), ([5], [5]), ([3, 6], [3, 6]), ([7, 6, 0, 1, 2, 3, 4, 5, 6, 7], [7])])
def spec_packHead.B6 : List Nat := [0, 1, 3, 7, 0, 16, 48, 127, 255]
theorem spec_packHead.tab6 : rtab .any (opsOf Try.f102 6) = spec_packHead.T6 := by kernel_rfl
theorem spec_packHead.bits6 : waitsOk spec_packHead.T6.2 spec_packHead.B6 = true := by kernel_rfl
def spec_packHead.T7 : Bool × List (List Nat × List Nat) := (true, [([], []), ([0], [0]), ([1], [1]), ([2], [2]), ([], []), ([4], [4]), ([5], [5]), ([3, 6], [3, 6]), ([7, 6, 0, 1, 2, 3, 4, 5, 6, 7], [7])])
def spec_packHead.B7 : List Nat := [0, 1, 3, 7, 0, 16, 48, 127, 255]
theorem spec_packHead.tab7 : rtab .any (opsOf Try.f102 7) = spec_packHead.T7 := by kernel_rfl
theorem spec_packHead.bits7 : waitsOk spec_packHead.T7.2 spec_packHead.B7 = true := by kernel_rfl
set_option maxHeartbeats 8000000 in
set_option maxRecDepth 100000 in
theorem spec_packHead.calls (k : Nat) (a0 : Int) (a1 : Int) (a2 : Int) (r : ByteArray) (w : World) (h : spec_packHead.f k a0 a1 a2 = some r) :
    Calls Try.prog 102 #[.int .u8 a0, .int .u8 a1, .int .i64 a2] w fun e w' => e = .returned (.string r) ∧ Below w.heap.size w w' := by
  have HB := Aside0.mk (Below.refl w.heap.size w)
  have H : (if a2 < 16 then (spec_packHead.j0 k a0 a1 a2 (a0 != 0)) else (spec_packHead.j0 k a0 a1 a2 false)) = some r := h
  clear h
  have HC4 := Aside0.mk H
  clear H
  go_enter Try.func102, Try.ntmps102
  go_upto_region 1 with (fail)
  go_cut [7] (fun v7 wc => ∃ (kq : Nat) (x7_3 : Bool), v7 = .bool x7_3 ∧ Aside0 (spec_packHead.j0 kq a0 a1 a2 x7_3 = some r) ∧ Aside0 (kq ≤ k) ∧ Aside0 (Below w.heap.size w wc))
  case first =>
    have H := HC4.out
    clear HC4
    by_cases c5 : a2 < 16
    · rw [if_pos c5] at H
      have c5b0 : decide (a2 < 16) = true := decide_eq_true c5
      clear c5
      (first | rw [c5b0] | (simp only [i64_w, i32_w]; rw [c5b0]) | skip)
      have H' := Aside0.mk H
      clear H
      go_wp2
      go_meet
      case rel => exact ⟨_, ((a0 != 0)), (by first | rfl | (simp; done) | (simp [*]; done)), H', ⟨by first | omega | exact Nat.le_refl _⟩, ⟨by repeat (first | (with_reducible first | exact HB.out | apply below_alloc | apply pw_below_drewN | apply below_drew1) | exact HB.out)⟩⟩
    · rw [if_neg c5] at H
      have c5b0 : decide (a2 < 16) = false := decide_eq_false c5
      clear c5
      (first | rw [c5b0] | (simp only [i64_w, i32_w]; rw [c5b0]) | skip)
      have H' := Aside0.mk H
      clear H
      go_wp2
      go_meet
      case rel => exact ⟨_, (false), (by first | rfl | (simp; done) | (simp [*]; done)), H', ⟨by first | omega | exact Nat.le_refl _⟩, ⟨by repeat (first | (with_reducible first | exact HB.out | apply below_alloc | apply pw_below_drewN | apply below_drew1) | exact HB.out)⟩⟩
  case rest =>
    clear HC4
    try clear c1
    try clear p2
    try clear c5
    try clear c5b0
    obtain ⟨kq, x7_3, rfl, HA, HJ3, HB⟩ := hcut
    cases kq with
    | zero => exact absurd HA.out (by simp [spec_packHead.j0])
    | succ kj3 =>
      have H := HA.out
      clear HA
      simp only [spec_packHead.j0] at H
      by_cases c6 : x7_3 = true
      · subst c6
        have H1 : (some (strOfNums (([(a0 + ((a2) % 256)) % 256] : List Int)))) = some r := by rw [if_pos rfl] at H; exact H
        clear H
        have H := H1
        clear H1
        obtain ⟨y135, hy135⟩ : ∃ y_ : List Int, y_ = (([(a0 + ((a2) % 256)) % 256] : List Int)) := ⟨_, rfl⟩
        replace H : (some (strOfNums y135)) = some r := by first | (rw [hy135]; with_reducible exact H) | (have H2_ := (Option.bind_some _ _).symm.trans H; rw [hy135]; with_reducible exact H2_) | (have H2_ := (Option.bind_some _ _).symm.trans H; with_reducible exact H2_) | with_reducible exact H | (rw [hy135]; exact H) | exact H
        have Ny135 := Aside0.mk hy135
        clear hy135
        obtain rfl := Option.some.inj H
        go_wp2_with (first | ((with_reducible refine gate_dst (N := 18) rfl ?_); refine Kd.R_lit (Kd.int .u8) _ 5 ?hg (N := 18) ?hd (xs := ([(a0 + ((a2) % 256)) % 256] : List Int)) (inner := [.int .u8 ((a0 + ((a2) % 256)) % 256)]) (ok := fun _ => True) (okp := fun _ => True) ?hr ?hp (fun _ hk => hk) trivial (Below.refl _ _) (Nat.le_refl _) (by simp) ?_; (case hd => rfl); (case hg => rfl); (case hr => first | (go_simp; done) | (go_simp; rfl)); (case hp => exact (Reps.one (show Kd.M (Kd.int .u8) _ _ _ ((a0 + ((a2) % 256)) % 256) [.int .u8 ((a0 + ((a2) % 256)) % 256)] from rfl) (Reps.none _ _))); intro v136 w7 ho8 hb hg_ hnew_; clear hg_ hnew_; (first | rw [← Ny135.out] at ho8 | (simp only [Int.reduceToNat] at ho8; rw [← Ny135.out] at ho8)); have n0_ := Aside0.mk (Kd.R_lower ho8 (below_size (by repeat (first | (with_reducible first | exact HB.out | apply below_alloc | apply pw_below_drewN | apply below_drew1) | exact HB.out)))); have n1_ := Aside0.mk (below_step (by repeat (first | (with_reducible first | exact HB.out | apply below_alloc | apply pw_below_drewN | apply below_drew1) | exact HB.out)) hb); clear HB; have HO137 := n0_; have HB := n1_; clear n0_ n1_; clear hb ho8; have hcv9 := own_string (P := Try.prog) Try.underlying69 Try.underlying5 Try.underlying9 (Kd.own_of_R HO137.out)))
        go_ret
        exact ⟨by first | rfl | (simp [errW_none, errW_some] <;> rfl) | (simp [*, errW_none, errW_some] <;> rfl), by repeat (first | (with_reducible first | exact HB.out | apply below_alloc | apply pw_below_drewN | apply below_drew1) | exact HB.out)⟩
      · replace c6 := Bool.eq_false_iff.mpr c6
        subst c6
        have H1 : (if a2 < 256 then (some (strOfNums (([a1, (a2) % 256] : List Int)))) else (if a2 < 65536 then ((some (([(a1 + 1) % 256] : List Int) : List Int)).bind fun y141 => ((spec_bytesOf.f kj3 (IntKind.u64.wrap (a2)) 2).bind fun t144 => (if (strOfNums y141).size + t144.size ≤ 9223372036854775807 then (some ((strOfNums y141) ++ t144)) else (none)))) else ((some (([(a1 + 2) % 256] : List Int) : List Int)).bind fun y145 => ((spec_bytesOf.f kj3 (IntKind.u64.wrap (a2)) 4).bind fun t148 => (if (strOfNums y145).size + t148.size ≤ 9223372036854775807 then (some ((strOfNums y145) ++ t148)) else (none)))))) = some r := by rw [if_neg (show ¬ (false = true) by decide)] at H; exact H
        clear H
        have H := H1
        clear H1
        by_cases c10 : a2 < 256
        · rw [if_pos c10] at H
          have c10b0 : decide (a2 < 256) = true := decide_eq_true c10
          clear c10
          obtain ⟨y138, hy138⟩ : ∃ y_ : List Int, y_ = (([a1, (a2) % 256] : List Int)) := ⟨_, rfl⟩
          replace H : (some (strOfNums y138)) = some r := by first | (rw [hy138]; with_reducible exact H) | (have H2_ := (Option.bind_some _ _).symm.trans H; rw [hy138]; with_reducible exact H2_) | (have H2_ := (Option.bind_some _ _).symm.trans H; with_reducible exact H2_) | with_reducible exact H | (rw [hy138]; exact H) | exact H
          have Ny138 := Aside0.mk hy138
          clear hy138
          obtain rfl := Option.some.inj H
          go_wp2_with (first | ((with_reducible refine gate_dst (N := 26) rfl ?_); refine Kd.R_lit (Kd.int .u8) _ 5 ?hg (N := 26) ?hd (xs := ([a1, (a2) % 256] : List Int)) (inner := [.int .u8 a1, .int .u8 ((a2) % 256)]) (ok := fun _ => True) (okp := fun _ => True) ?hr ?hp (fun _ hk => hk) trivial (Below.refl _ _) (Nat.le_refl _) (by simp) ?_; (case hd => rfl); (case hg => rfl); (case hr => first | (go_simp; done) | (go_simp; rfl)); (case hp => exact (Reps.one (show Kd.M (Kd.int .u8) _ _ _ a1 [.int .u8 a1] from rfl) (Reps.one (show Kd.M (Kd.int .u8) _ _ _ ((a2) % 256) [.int .u8 ((a2) % 256)] from rfl) (Reps.none _ _)))); intro v139 w11 ho12 hb hg_ hnew_; clear hg_ hnew_; (first | rw [← Ny138.out] at ho12 | (simp only [Int.reduceToNat] at ho12; rw [← Ny138.out] at ho12)); have n0_ := Aside0.mk (Kd.R_lower ho12 (below_size (by repeat (first | (with_reducible first | exact HB.out | apply below_alloc | apply pw_below_drewN | apply below_drew1) | exact HB.out)))); have n1_ := Aside0.mk (below_step (by repeat (first | (with_reducible first | exact HB.out | apply below_alloc | apply pw_below_drewN | apply below_drew1) | exact HB.out)) hb); clear HB; have HO140 := n0_; have HB := n1_; clear n0_ n1_; clear hb ho12; have hcv13 := own_string (P := Try.prog) Try.underlying69 Try.underlying5 Try.underlying9 (Kd.own_of_R HO140.out)))
          go_ret
          exact ⟨by first | rfl | (simp [errW_none, errW_some] <;> rfl) | (simp [*, errW_none, errW_some] <;> rfl), by repeat (first | (with_reducible first | exact HB.out | apply below_alloc | apply pw_below_drewN | apply below_drew1) | exact HB.out)⟩
        · rw [if_neg c10] at H
          have c10b0 : decide (a2 < 256) = false := decide_eq_false c10
          clear c10
          by_cases c14 : a2 < 65536
          · rw [if_pos c14] at H
            have c14b0 : decide (a2 < 65536) = true := decide_eq_true c14
            clear c14
            obtain ⟨y141, hy141⟩ : ∃ y_ : List Int, y_ = (([(a1 + 1) % 256] : List Int)) := ⟨_, rfl⟩
            replace H : ((spec_bytesOf.f kj3 (IntKind.u64.wrap (a2)) 2).bind fun t144 => (if (strOfNums y141).size + t144.size ≤ 9223372036854775807 then (some ((strOfNums y141) ++ t144)) else (none))) = some r := by first | (rw [hy141]; with_reducible exact H) | (have H2_ := (Option.bind_some _ _).symm.trans H; rw [hy141]; with_reducible exact H2_) | (have H2_ := (Option.bind_some _ _).symm.trans H; with_reducible exact H2_) | with_reducible exact H | (rw [hy141]; exact H) | exact H
            have Ny141 := Aside0.mk hy141
            clear hy141
            replace H := Option.bind_eq_some_iff.mp H
            obtain ⟨t144, A150, H⟩ := H
            replace H : (if (strOfNums y141).size + t144.size ≤ 9223372036854775807 then (some ((strOfNums y141) ++ t144)) else (none)) = some r := H
            have A15 := Aside0.mk A150
            clear A150
            by_cases c16 : (strOfNums y141).size + t144.size ≤ 9223372036854775807
            · rw [if_pos c16] at H
              have c16b0 := eq_true c16
              have c16b1 : decide ((strOfNums y141).size + t144.size ≤ 9223372036854775807) = true := decide_eq_true c16
              try have c16b2 : (9223372036854775807 < (strOfNums y141).size + t144.size) = False := eq_false (Nat.not_lt.2 c16)
              obtain rfl := Option.some.inj H
              try go_wp2
              have n0_ := Aside0.mk (below_drew1 HB.out)
              clear HB
              have HB := n0_
              clear n0_
              refine start_ (n := 9) (S := fun w' => True) (ds := []) #[false, false, false, false, false, false, false, false, false] (by kernel_rfl) rfl rfl trivial (fun hHeld => ?_); refine with_tabW spec_packHead.tab6 spec_packHead.bits6 (fun HT_ HW_ => ?_)
              generalize wc.drew = w17 at HB hHeld ⊢
              refine pure_ (i := 0) (N := some 31) (v := ?_) (a' := ?_) #[true, false, false, false, false, false, false, false, false] rfl rfl (any_of HT_.out (by kernel_rfl)) (fun _ _ _ h => h) (Or.inl ⟨by rfl, ?_⟩) ?_ ?_
              rotate_left
              · intro w'
                go_simp
                with_reducible rfl
              rotate_left
              · simp only [Act.put, List.setIfInBounds_toArray, List.set_cons_zero, List.set_cons_succ, i64_w, i32_w]
                rfl
              refine pure_ (i := 1) (N := some 32) (v := ?_) (a' := ?_) #[true, true, false, false, false, false, false, false, false] rfl rfl (any_of HT_.out (by kernel_rfl)) (fun _ _ _ h => h) (Or.inl ⟨by rfl, ?_⟩) ?_ ?_
              rotate_left
              · intro w'
                go_simp
                with_reducible rfl
              rotate_left
              · simp only [Act.put, List.setIfInBounds_toArray, List.set_cons_zero, List.set_cons_succ, i64_w, i32_w]
                rfl
              refine pure_ (i := 4) (N := some 35) (v := ?_) (a' := ?_) #[true, true, false, false, true, false, false, false, false] rfl rfl (any_of HT_.out (by kernel_rfl)) (fun _ _ _ h => h) (Or.inl ⟨by rfl, ?_⟩) ?_ ?_
              rotate_left
              · intro w'
                go_simp
                with_reducible rfl
              rotate_left
              · simp only [Act.put, List.setIfInBounds_toArray, List.set_cons_zero, List.set_cons_succ, i64_w, i32_w]
                rfl
              refine pure_ (i := 5) (N := some 36) (v := ?_) (a' := ?_) #[true, true, false, false, true, true, false, false, false] rfl rfl (any_of HT_.out (by kernel_rfl)) (fun _ _ _ h => h) (Or.inl ⟨by rfl, ?_⟩) ?_ ?_
              rotate_left
              · intro w'
                go_simp
                with_reducible rfl
              rotate_left
              · simp only [Act.put, List.setIfInBounds_toArray, List.set_cons_zero, List.set_cons_succ, i64_w, i32_w]
                rfl
              refine join_ (σ := Value) 2 #[true, true, true, true, true, true, true, false, false] (fun s_ => [(33, s_), (34, .string (strOfNums y141)), (37, .string t144)]) (fun s_ w' => (Kd.R (Kd.int .u8) 5 w' w.heap.size (fun _ => True) s_ y141) ∧ (Below w.heap.size w w')) ?_ ?_
              rotate_left
              · intro hCont
                refine two_ (i := 2) (j := 6) (Ni := some 33) (Nj := some 37) #[true, true, true, false, true, true, false, false, false] #[true, true, false, false, true, true, true, false, false] rfl rfl rfl rfl (two_of HT_.out (by kernel_rfl)) (by decide) (by decide) (fun K hK => ?_) (fun K hK => ?_)
                · skip
                  refine Kd.R_lit_step (Kd.int .u8) _ 5 ?hg (N := 33) ?hd (xs := ([(a1 + 1) % 256] : List Int)) (inner := [.int .u8 ((a1 + 1) % 256)]) (ok := fun _ => True) (okp := fun _ => True) ?hr ?hp (fun _ hk => hk) trivial (Below.refl _ _) (Nat.le_refl _) (by simp) ?_; (case hd => rfl); (case hg => rfl); (case hr => first | (go_simp; done) | (go_simp; rfl)); (case hp => exact (Reps.one (show Kd.M (Kd.int .u8) _ _ _ ((a1 + 1) % 256) [.int .u8 ((a1 + 1) % 256)] from rfl) (Reps.none _ _)))
                  intro v142 w18 ho19 hb hg_ hnew_
                  clear hg_ hnew_
                  (first | rw [← Ny141.out] at ho19 | (simp only [Int.reduceToNat] at ho19; rw [← Ny141.out] at ho19))
                  have n0_ := Aside0.mk (Kd.R_lower ho19 (below_size (by repeat (first | (with_reducible first | exact HB.out | apply below_alloc | apply pw_below_drewN | apply below_drew1) | exact HB.out))))
                  have n1_ := Aside0.mk (below_step (by repeat (first | (with_reducible first | exact HB.out | apply below_alloc | apply pw_below_drewN | apply below_drew1) | exact HB.out)) hb)
                  clear HB
                  have HO143 := n0_
                  have HB := n1_
                  clear n0_ n1_
                  clear hb ho19
                  refine hK.out _ _ trivial (fun hHeld => ?_)
                  clear hK K
                  refine norm_ (a' := ?_) ?_ ?_
                  rotate_left
                  · show Act.put _ (some 33) _ = _
                    simp only [Act.put, List.setIfInBounds_toArray, List.set_cons_zero, List.set_cons_succ, i64_w, i32_w]
                    rfl
                  refine two_ (i := 3) (j := 6) (Ni := some 34) (Nj := some 37) #[true, true, true, true, true, true, false, false, false] #[true, true, true, false, true, true, true, false, false] rfl rfl rfl rfl (two_of HT_.out (by kernel_rfl)) (by decide) (by decide) (fun K hK => ?_) (fun K hK => ?_)
                  · skip
                    have hcv20 := own_string (P := Try.prog) Try.underlying69 Try.underlying5 Try.underlying9 (Kd.own_of_R HO143.out)
                    refine value_ (w1 := ?_) (v := ?_) (by rfl) rfl ?_ ?_
                    rotate_left 2
                    · go_simp
                      constructor
                      · rfl
                      · rfl
                    clear hcv20
                    refine hK.out _ _ trivial (fun hHeld => ?_)
                    clear hK K
                    refine norm_ (a' := ?_) ?_ ?_
                    rotate_left
                    · show Act.put _ (some 34) _ = _
                      simp only [Act.put, List.setIfInBounds_toArray, List.set_cons_zero, List.set_cons_succ, i64_w, i32_w]
                      rfl
                    refine one_ (i := 6) (N := some 37) #[true, true, true, true, true, true, true, false, false] rfl rfl (one_of HT_.out (by kernel_rfl)) (by decide) (fun K hK => ?_)
                    refine goes_ Try.func126 (by kernel_rfl) rfl #[.int .u64 (IntKind.u64.wrap (a2)), .int .i64 2] (by rfl) rfl rfl (by (try simp only [List.map_toArray, List.map_cons, List.map_nil]); first | done | rfl | (simp only [List.length_drop, List.length_take]; rfl)) ?_
                    with_reducible refine (spec_bytesOf.calls kj3 (IntKind.u64.wrap (a2)) 2 t144 _ A15.out).mono ?_
                    rintro e w21 ⟨rfl, hb⟩
                    refine ⟨_, rfl, ?_⟩
                    have n0_ := Aside0.mk (Kd.R_below (by (with_reducible repeat (first | apply Kd.R_alloc | apply Kd.R_drewN | apply Kd.R_drew)); exact HO143.out) hb)
                    have n1_ := Aside0.mk (below_step (by repeat (first | (with_reducible first | exact HB.out | apply below_alloc | apply pw_below_drewN | apply below_drew1) | exact HB.out)) hb)
                    clear HO143
                    clear HB
                    have HO143 := n0_
                    have HB := n1_
                    clear n0_ n1_
                    (try clear hb)
                    (try clear hb2)
                    (try clear hk)
                    (try clear hi)
                    refine hK.out _ _ trivial (fun hHeld => ?_)
                    clear hK K
                    refine norm_ (a' := ?_) ?_ ?_
                    rotate_left
                    · show Act.put _ (some 37) _ = _
                      simp only [Act.put, List.setIfInBounds_toArray, List.set_cons_zero, List.set_cons_succ, i64_w, i32_w]
                      rfl
                    exact norm_ (by simp only [putAll, Act.put, List.setIfInBounds_toArray, List.set_cons_zero, List.set_cons_succ]) (hCont (v142) _ ⟨(by (with_reducible repeat (first | apply Kd.R_alloc | apply Kd.R_drewN | apply Kd.R_drew)); exact HO143.out), (by repeat (first | (with_reducible first | exact HB.out | apply below_alloc | apply pw_below_drewN | apply below_drew1) | exact HB.out))⟩)
                  · skip
                    refine goes_ Try.func126 (by kernel_rfl) rfl #[.int .u64 (IntKind.u64.wrap (a2)), .int .i64 2] (by rfl) rfl rfl (by (try simp only [List.map_toArray, List.map_cons, List.map_nil]); first | done | rfl | (simp only [List.length_drop, List.length_take]; rfl)) ?_
                    with_reducible refine (spec_bytesOf.calls kj3 (IntKind.u64.wrap (a2)) 2 t144 _ A15.out).mono ?_
                    rintro e w20 ⟨rfl, hb⟩
                    refine ⟨_, rfl, ?_⟩
                    have n0_ := Aside0.mk (Kd.R_below (by (with_reducible repeat (first | apply Kd.R_alloc | apply Kd.R_drewN | apply Kd.R_drew)); exact HO143.out) hb)
                    have n1_ := Aside0.mk (below_step (by repeat (first | (with_reducible first | exact HB.out | apply below_alloc | apply pw_below_drewN | apply below_drew1) | exact HB.out)) hb)
                    clear HO143
                    clear HB
                    have HO143 := n0_
                    have HB := n1_
                    clear n0_ n1_
                    (try clear hb)
                    (try clear hb2)
                    (try clear hk)
                    (try clear hi)
                    refine hK.out _ _ trivial (fun hHeld => ?_)
                    clear hK K
                    refine norm_ (a' := ?_) ?_ ?_
                    rotate_left
                    · show Act.put _ (some 37) _ = _
                      simp only [Act.put, List.setIfInBounds_toArray, List.set_cons_zero, List.set_cons_succ, i64_w, i32_w]
                      rfl
                    refine one_ (i := 3) (N := some 34) #[true, true, true, true, true, true, true, false, false] rfl rfl (one_of HT_.out (by kernel_rfl)) (by decide) (fun K hK => ?_)
                    have hcv21 := own_string (P := Try.prog) Try.underlying69 Try.underlying5 Try.underlying9 (Kd.own_of_R HO143.out)
                    refine value_ (w1 := ?_) (v := ?_) (by rfl) rfl ?_ ?_
                    rotate_left 2
                    · go_simp
                      constructor
                      · rfl
                      · rfl
                    clear hcv21
                    refine hK.out _ _ trivial (fun hHeld => ?_)
                    clear hK K
                    refine norm_ (a' := ?_) ?_ ?_
                    rotate_left
                    · show Act.put _ (some 34) _ = _
                      simp only [Act.put, List.setIfInBounds_toArray, List.set_cons_zero, List.set_cons_succ, i64_w, i32_w]
                      rfl
                    exact norm_ (by simp only [putAll, Act.put, List.setIfInBounds_toArray, List.set_cons_zero, List.set_cons_succ]) (hCont (v142) _ ⟨(by (with_reducible repeat (first | apply Kd.R_alloc | apply Kd.R_drewN | apply Kd.R_drew)); exact HO143.out), (by repeat (first | (with_reducible first | exact HB.out | apply below_alloc | apply pw_below_drewN | apply below_drew1) | exact HB.out))⟩)
                · skip
                  refine goes_ Try.func126 (by kernel_rfl) rfl #[.int .u64 (IntKind.u64.wrap (a2)), .int .i64 2] (by rfl) rfl rfl (by (try simp only [List.map_toArray, List.map_cons, List.map_nil]); first | done | rfl | (simp only [List.length_drop, List.length_take]; rfl)) ?_
                  with_reducible refine (spec_bytesOf.calls kj3 (IntKind.u64.wrap (a2)) 2 t144 _ A15.out).mono ?_
                  rintro e w18 ⟨rfl, hb⟩
                  refine ⟨_, rfl, ?_⟩
                  have n0_ := Aside0.mk (below_step (by repeat (first | (with_reducible first | exact HB.out | apply below_alloc | apply pw_below_drewN | apply below_drew1) | exact HB.out)) hb)
                  clear HB
                  have HB := n0_
                  clear n0_
                  (try clear hb)
                  (try clear hb2)
                  (try clear hk)
                  (try clear hi)
                  refine hK.out _ _ trivial (fun hHeld => ?_)
                  clear hK K
                  refine norm_ (a' := ?_) ?_ ?_
                  rotate_left
                  · show Act.put _ (some 37) _ = _
                    simp only [Act.put, List.setIfInBounds_toArray, List.set_cons_zero, List.set_cons_succ, i64_w, i32_w]
                    rfl
                  refine one_ (i := 2) (N := some 33) #[true, true, true, false, true, true, true, false, false] rfl rfl (one_of HT_.out (by kernel_rfl)) (by decide) (fun K hK => ?_)
                  refine Kd.R_lit_step (Kd.int .u8) _ 5 ?hg (N := 33) ?hd (xs := ([(a1 + 1) % 256] : List Int)) (inner := [.int .u8 ((a1 + 1) % 256)]) (ok := fun _ => True) (okp := fun _ => True) ?hr ?hp (fun _ hk => hk) trivial (Below.refl _ _) (Nat.le_refl _) (by simp) ?_; (case hd => rfl); (case hg => rfl); (case hr => first | (go_simp; done) | (go_simp; rfl)); (case hp => exact (Reps.one (show Kd.M (Kd.int .u8) _ _ _ ((a1 + 1) % 256) [.int .u8 ((a1 + 1) % 256)] from rfl) (Reps.none _ _)))
                  intro v142 w19 ho20 hb hg_ hnew_
                  clear hg_ hnew_
                  (first | rw [← Ny141.out] at ho20 | (simp only [Int.reduceToNat] at ho20; rw [← Ny141.out] at ho20))
                  have n0_ := Aside0.mk (Kd.R_lower ho20 (below_size (by repeat (first | (with_reducible first | exact HB.out | apply below_alloc | apply pw_below_drewN | apply below_drew1) | exact HB.out))))
                  have n1_ := Aside0.mk (below_step (by repeat (first | (with_reducible first | exact HB.out | apply below_alloc | apply pw_below_drewN | apply below_drew1) | exact HB.out)) hb)
                  clear HB
                  have HO143 := n0_
                  have HB := n1_
                  clear n0_ n1_
                  clear hb ho20
                  refine hK.out _ _ trivial (fun hHeld => ?_)
                  clear hK K
                  refine norm_ (a' := ?_) ?_ ?_
                  rotate_left
                  · show Act.put _ (some 33) _ = _
                    simp only [Act.put, List.setIfInBounds_toArray, List.set_cons_zero, List.set_cons_succ, i64_w, i32_w]
                    rfl
                  refine one_ (i := 3) (N := some 34) #[true, true, true, true, true, true, true, false, false] rfl rfl (one_of HT_.out (by kernel_rfl)) (by decide) (fun K hK => ?_)
                  have hcv21 := own_string (P := Try.prog) Try.underlying69 Try.underlying5 Try.underlying9 (Kd.own_of_R HO143.out)
                  refine value_ (w1 := ?_) (v := ?_) (by rfl) rfl ?_ ?_
                  rotate_left 2
                  · go_simp
                    constructor
                    · rfl
                    · rfl
                  clear hcv21
                  refine hK.out _ _ trivial (fun hHeld => ?_)
                  clear hK K
                  refine norm_ (a' := ?_) ?_ ?_
                  rotate_left
                  · show Act.put _ (some 34) _ = _
                    simp only [Act.put, List.setIfInBounds_toArray, List.set_cons_zero, List.set_cons_succ, i64_w, i32_w]
                    rfl
                  exact norm_ (by simp only [putAll, Act.put, List.setIfInBounds_toArray, List.set_cons_zero, List.set_cons_succ]) (hCont (v142) _ ⟨(by (with_reducible repeat (first | apply Kd.R_alloc | apply Kd.R_drewN | apply Kd.R_drew)); exact HO143.out), (by repeat (first | (with_reducible first | exact HB.out | apply below_alloc | apply pw_below_drewN | apply below_drew1) | exact HB.out))⟩)
              rintro v142 w22 ⟨h0_, h1_⟩
              have n0_ : Aside0 (Kd.R (Kd.int .u8) 5 w22 w.heap.size (fun _ => True) v142 y141) := ⟨h0_⟩
              have n1_ : Aside0 (Below w.heap.size w w22) := ⟨h1_⟩
              clear HB
              clear h0_ h1_
              have HO143 := n0_
              have HB := n1_
              clear n0_ n1_
              have hHeld := trivial
              refine norm_ (a' := ?_) ?_ ?_
              rotate_left
              · simp only [putAll, Act.put, List.setIfInBounds_toArray, List.set_cons_zero, List.set_cons_succ]
                rfl
              refine pure_ (i := 7) (N := some 38) (v := ?_) (a' := ?_) #[true, true, true, true, true, true, true, true, false] rfl rfl (any_of HT_.out (by kernel_rfl)) (fun _ _ _ h => h) (Or.inl ⟨by rfl, ?_⟩) ?_ ?_
              rotate_left
              · intro w'
                go_simp
                with_reducible rfl
              rotate_left
              · simp only [Act.put, List.setIfInBounds_toArray, List.set_cons_zero, List.set_cons_succ, i64_w, i32_w]
                rfl
              refine pure_ (i := 8) (N := some 6) (v := ?_) (a' := ?_) #[true, true, true, true, true, true, true, true, true] rfl rfl (any_of HT_.out (by kernel_rfl)) (fun _ _ _ h => h) (Or.inl ⟨by rfl, ?_⟩) ?_ ?_
              rotate_left
              · intro w'
                go_simp
                with_reducible rfl
              rotate_left
              · simp only [Act.put, List.setIfInBounds_toArray, List.set_cons_zero, List.set_cons_succ, i64_w, i32_w]
                rfl
              refine done_ (done_of HT_.out (by kernel_rfl)) ?_
              try go_wp2
              go_ret
              exact ⟨by first | rfl | (simp [errW_none, errW_some] <;> rfl) | (simp [*, errW_none, errW_some] <;> rfl), by repeat (first | (with_reducible first | exact HB.out | apply below_alloc | apply pw_below_drewN | apply below_drew1) | exact HB.out)⟩
            · rw [if_neg c16] at H
              exact absurd H (by simp)
          · rw [if_neg c14] at H
            have c14b0 : decide (a2 < 65536) = false := decide_eq_false c14
            clear c14
            obtain ⟨y145, hy145⟩ : ∃ y_ : List Int, y_ = (([(a1 + 2) % 256] : List Int)) := ⟨_, rfl⟩
            replace H : ((spec_bytesOf.f kj3 (IntKind.u64.wrap (a2)) 4).bind fun t148 => (if (strOfNums y145).size + t148.size ≤ 9223372036854775807 then (some ((strOfNums y145) ++ t148)) else (none))) = some r := by first | (rw [hy145]; with_reducible exact H) | (have H2_ := (Option.bind_some _ _).symm.trans H; rw [hy145]; with_reducible exact H2_) | (have H2_ := (Option.bind_some _ _).symm.trans H; with_reducible exact H2_) | with_reducible exact H | (rw [hy145]; exact H) | exact H
            have Ny145 := Aside0.mk hy145
            clear hy145
            replace H := Option.bind_eq_some_iff.mp H
            obtain ⟨t148, A230, H⟩ := H
            replace H : (if (strOfNums y145).size + t148.size ≤ 9223372036854775807 then (some ((strOfNums y145) ++ t148)) else (none)) = some r := H
            have A23 := Aside0.mk A230
            clear A230
            by_cases c24 : (strOfNums y145).size + t148.size ≤ 9223372036854775807
            · rw [if_pos c24] at H
              have c24b0 := eq_true c24
              have c24b1 : decide ((strOfNums y145).size + t148.size ≤ 9223372036854775807) = true := decide_eq_true c24
              try have c24b2 : (9223372036854775807 < (strOfNums y145).size + t148.size) = False := eq_false (Nat.not_lt.2 c24)
              obtain rfl := Option.some.inj H
              try go_wp2
              have n0_ := Aside0.mk (below_drew1 HB.out)
              clear HB
              have HB := n0_
              clear n0_
              refine start_ (n := 9) (S := fun w' => True) (ds := []) #[false, false, false, false, false, false, false, false, false] (by kernel_rfl) rfl rfl trivial (fun hHeld => ?_); refine with_tabW spec_packHead.tab7 spec_packHead.bits7 (fun HT_ HW_ => ?_)
              generalize wc.drew = w25 at HB hHeld ⊢
              refine pure_ (i := 0) (N := some 39) (v := ?_) (a' := ?_) #[true, false, false, false, false, false, false, false, false] rfl rfl (any_of HT_.out (by kernel_rfl)) (fun _ _ _ h => h) (Or.inl ⟨by rfl, ?_⟩) ?_ ?_
              rotate_left
              · intro w'
                go_simp
                with_reducible rfl
              rotate_left
              · simp only [Act.put, List.setIfInBounds_toArray, List.set_cons_zero, List.set_cons_succ, i64_w, i32_w]
                rfl
              refine pure_ (i := 1) (N := some 40) (v := ?_) (a' := ?_) #[true, true, false, false, false, false, false, false, false] rfl rfl (any_of HT_.out (by kernel_rfl)) (fun _ _ _ h => h) (Or.inl ⟨by rfl, ?_⟩) ?_ ?_
              rotate_left
              · intro w'
                go_simp
                with_reducible rfl
              rotate_left
              · simp only [Act.put, List.setIfInBounds_toArray, List.set_cons_zero, List.set_cons_succ, i64_w, i32_w]
                rfl
              refine pure_ (i := 4) (N := some 43) (v := ?_) (a' := ?_) #[true, true, false, false, true, false, false, false, false] rfl rfl (any_of HT_.out (by kernel_rfl)) (fun _ _ _ h => h) (Or.inl ⟨by rfl, ?_⟩) ?_ ?_
              rotate_left
              · intro w'
                go_simp
                with_reducible rfl
              rotate_left
              · simp only [Act.put, List.setIfInBounds_toArray, List.set_cons_zero, List.set_cons_succ, i64_w, i32_w]
                rfl
              refine pure_ (i := 5) (N := some 44) (v := ?_) (a' := ?_) #[true, true, false, false, true, true, false, false, false] rfl rfl (any_of HT_.out (by kernel_rfl)) (fun _ _ _ h => h) (Or.inl ⟨by rfl, ?_⟩) ?_ ?_
              rotate_left
              · intro w'
                go_simp
                with_reducible rfl
              rotate_left
              · simp only [Act.put, List.setIfInBounds_toArray, List.set_cons_zero, List.set_cons_succ, i64_w, i32_w]
                rfl
              refine join_ (σ := Value) 2 #[true, true, true, true, true, true, true, false, false] (fun s_ => [(41, s_), (42, .string (strOfNums y145)), (45, .string t148)]) (fun s_ w' => (Kd.R (Kd.int .u8) 5 w' w.heap.size (fun _ => True) s_ y145) ∧ (Below w.heap.size w w')) ?_ ?_
              rotate_left
              · intro hCont
                refine two_ (i := 2) (j := 6) (Ni := some 41) (Nj := some 45) #[true, true, true, false, true, true, false, false, false] #[true, true, false, false, true, true, true, false, false] rfl rfl rfl rfl (two_of HT_.out (by kernel_rfl)) (by decide) (by decide) (fun K hK => ?_) (fun K hK => ?_)
                · skip
                  refine Kd.R_lit_step (Kd.int .u8) _ 5 ?hg (N := 41) ?hd (xs := ([(a1 + 2) % 256] : List Int)) (inner := [.int .u8 ((a1 + 2) % 256)]) (ok := fun _ => True) (okp := fun _ => True) ?hr ?hp (fun _ hk => hk) trivial (Below.refl _ _) (Nat.le_refl _) (by simp) ?_; (case hd => rfl); (case hg => rfl); (case hr => first | (go_simp; done) | (go_simp; rfl)); (case hp => exact (Reps.one (show Kd.M (Kd.int .u8) _ _ _ ((a1 + 2) % 256) [.int .u8 ((a1 + 2) % 256)] from rfl) (Reps.none _ _)))
                  intro v146 w26 ho27 hb hg_ hnew_
                  clear hg_ hnew_
                  (first | rw [← Ny145.out] at ho27 | (simp only [Int.reduceToNat] at ho27; rw [← Ny145.out] at ho27))
                  have n0_ := Aside0.mk (Kd.R_lower ho27 (below_size (by repeat (first | (with_reducible first | exact HB.out | apply below_alloc | apply pw_below_drewN | apply below_drew1) | exact HB.out))))
                  have n1_ := Aside0.mk (below_step (by repeat (first | (with_reducible first | exact HB.out | apply below_alloc | apply pw_below_drewN | apply below_drew1) | exact HB.out)) hb)
                  clear HB
                  have HO147 := n0_
                  have HB := n1_
                  clear n0_ n1_
                  clear hb ho27
                  refine hK.out _ _ trivial (fun hHeld => ?_)
                  clear hK K
                  refine norm_ (a' := ?_) ?_ ?_
                  rotate_left
                  · show Act.put _ (some 41) _ = _
                    simp only [Act.put, List.setIfInBounds_toArray, List.set_cons_zero, List.set_cons_succ, i64_w, i32_w]
                    rfl
                  refine two_ (i := 3) (j := 6) (Ni := some 42) (Nj := some 45) #[true, true, true, true, true, true, false, false, false] #[true, true, true, false, true, true, true, false, false] rfl rfl rfl rfl (two_of HT_.out (by kernel_rfl)) (by decide) (by decide) (fun K hK => ?_) (fun K hK => ?_)
                  · skip
                    have hcv28 := own_string (P := Try.prog) Try.underlying69 Try.underlying5 Try.underlying9 (Kd.own_of_R HO147.out)
                    refine value_ (w1 := ?_) (v := ?_) (by rfl) rfl ?_ ?_
                    rotate_left 2
                    · go_simp
                      constructor
                      · rfl
                      · rfl
                    clear hcv28
                    refine hK.out _ _ trivial (fun hHeld => ?_)
                    clear hK K
                    refine norm_ (a' := ?_) ?_ ?_
                    rotate_left
                    · show Act.put _ (some 42) _ = _
                      simp only [Act.put, List.setIfInBounds_toArray, List.set_cons_zero, List.set_cons_succ, i64_w, i32_w]
                      rfl
                    refine one_ (i := 6) (N := some 45) #[true, true, true, true, true, true, true, false, false] rfl rfl (one_of HT_.out (by kernel_rfl)) (by decide) (fun K hK => ?_)
                    refine goes_ Try.func126 (by kernel_rfl) rfl #[.int .u64 (IntKind.u64.wrap (a2)), .int .i64 4] (by rfl) rfl rfl (by (try simp only [List.map_toArray, List.map_cons, List.map_nil]); first | done | rfl | (simp only [List.length_drop, List.length_take]; rfl)) ?_
                    with_reducible refine (spec_bytesOf.calls kj3 (IntKind.u64.wrap (a2)) 4 t148 _ A23.out).mono ?_
                    rintro e w29 ⟨rfl, hb⟩
                    refine ⟨_, rfl, ?_⟩
                    have n0_ := Aside0.mk (Kd.R_below (by (with_reducible repeat (first | apply Kd.R_alloc | apply Kd.R_drewN | apply Kd.R_drew)); exact HO147.out) hb)
                    have n1_ := Aside0.mk (below_step (by repeat (first | (with_reducible first | exact HB.out | apply below_alloc | apply pw_below_drewN | apply below_drew1) | exact HB.out)) hb)
                    clear HO147
                    clear HB
                    have HO147 := n0_
                    have HB := n1_
                    clear n0_ n1_
                    (try clear hb)
                    (try clear hb2)
                    (try clear hk)
                    (try clear hi)
                    refine hK.out _ _ trivial (fun hHeld => ?_)
                    clear hK K
                    refine norm_ (a' := ?_) ?_ ?_
                    rotate_left
                    · show Act.put _ (some 45) _ = _
                      simp only [Act.put, List.setIfInBounds_toArray, List.set_cons_zero, List.set_cons_succ, i64_w, i32_w]
                      rfl
                    exact norm_ (by simp only [putAll, Act.put, List.setIfInBounds_toArray, List.set_cons_zero, List.set_cons_succ]) (hCont (v146) _ ⟨(by (with_reducible repeat (first | apply Kd.R_alloc | apply Kd.R_drewN | apply Kd.R_drew)); exact HO147.out), (by repeat (first | (with_reducible first | exact HB.out | apply below_alloc | apply pw_below_drewN | apply below_drew1) | exact HB.out))⟩)
                  · skip
                    refine goes_ Try.func126 (by kernel_rfl) rfl #[.int .u64 (IntKind.u64.wrap (a2)), .int .i64 4] (by rfl) rfl rfl (by (try simp only [List.map_toArray, List.map_cons, List.map_nil]); first | done | rfl | (simp only [List.length_drop, List.length_take]; rfl)) ?_
                    with_reducible refine (spec_bytesOf.calls kj3 (IntKind.u64.wrap (a2)) 4 t148 _ A23.out).mono ?_
                    rintro e w28 ⟨rfl, hb⟩
                    refine ⟨_, rfl, ?_⟩
                    have n0_ := Aside0.mk (Kd.R_below (by (with_reducible repeat (first | apply Kd.R_alloc | apply Kd.R_drewN | apply Kd.R_drew)); exact HO147.out) hb)
                    have n1_ := Aside0.mk (below_step (by repeat (first | (with_reducible first | exact HB.out | apply below_alloc | apply pw_below_drewN | apply below_drew1) | exact HB.out)) hb)
                    clear HO147
                    clear HB
                    have HO147 := n0_
                    have HB := n1_
                    clear n0_ n1_
                    (try clear hb)
                    (try clear hb2)
                    (try clear hk)
                    (try clear hi)
                    refine hK.out _ _ trivial (fun hHeld => ?_)
                    clear hK K
                    refine norm_ (a' := ?_) ?_ ?_
                    rotate_left
                    · show Act.put _ (some 45) _ = _
                      simp only [Act.put, List.setIfInBounds_toArray, List.set_cons_zero, List.set_cons_succ, i64_w, i32_w]
                      rfl
                    refine one_ (i := 3) (N := some 42) #[true, true, true, true, true, true, true, false, false] rfl rfl (one_of HT_.out (by kernel_rfl)) (by decide) (fun K hK => ?_)
                    have hcv29 := own_string (P := Try.prog) Try.underlying69 Try.underlying5 Try.underlying9 (Kd.own_of_R HO147.out)
                    refine value_ (w1 := ?_) (v := ?_) (by rfl) rfl ?_ ?_
                    rotate_left 2
                    · go_simp
                      constructor
                      · rfl
                      · rfl
                    clear hcv29
                    refine hK.out _ _ trivial (fun hHeld => ?_)
                    clear hK K
                    refine norm_ (a' := ?_) ?_ ?_
                    rotate_left
                    · show Act.put _ (some 42) _ = _
                      simp only [Act.put, List.setIfInBounds_toArray, List.set_cons_zero, List.set_cons_succ, i64_w, i32_w]
                      rfl
                    exact norm_ (by simp only [putAll, Act.put, List.setIfInBounds_toArray, List.set_cons_zero, List.set_cons_succ]) (hCont (v146) _ ⟨(by (with_reducible repeat (first | apply Kd.R_alloc | apply Kd.R_drewN | apply Kd.R_drew)); exact HO147.out), (by repeat (first | (with_reducible first | exact HB.out | apply below_alloc | apply pw_below_drewN | apply below_drew1) | exact HB.out))⟩)
                · skip
                  refine goes_ Try.func126 (by kernel_rfl) rfl #[.int .u64 (IntKind.u64.wrap (a2)), .int .i64 4] (by rfl) rfl rfl (by (try simp only [List.map_toArray, List.map_cons, List.map_nil]); first | done | rfl | (simp only [List.length_drop, List.length_take]; rfl)) ?_
                  with_reducible refine (spec_bytesOf.calls kj3 (IntKind.u64.wrap (a2)) 4 t148 _ A23.out).mono ?_
                  rintro e w26 ⟨rfl, hb⟩
                  refine ⟨_, rfl, ?_⟩
                  have n0_ := Aside0.mk (below_step (by repeat (first | (with_reducible first | exact HB.out | apply below_alloc | apply pw_below_drewN | apply below_drew1) | exact HB.out)) hb)
                  clear HB
                  have HB := n0_
                  clear n0_
                  (try clear hb)
                  (try clear hb2)
                  (try clear hk)
                  (try clear hi)
                  refine hK.out _ _ trivial (fun hHeld => ?_)
                  clear hK K
                  refine norm_ (a' := ?_) ?_ ?_
                  rotate_left
                  · show Act.put _ (some 45) _ = _
                    simp only [Act.put, List.setIfInBounds_toArray, List.set_cons_zero, List.set_cons_succ, i64_w, i32_w]
                    rfl
                  refine one_ (i := 2) (N := some 41) #[true, true, true, false, true, true, true, false, false] rfl rfl (one_of HT_.out (by kernel_rfl)) (by decide) (fun K hK => ?_)
                  refine Kd.R_lit_step (Kd.int .u8) _ 5 ?hg (N := 41) ?hd (xs := ([(a1 + 2) % 256] : List Int)) (inner := [.int .u8 ((a1 + 2) % 256)]) (ok := fun _ => True) (okp := fun _ => True) ?hr ?hp (fun _ hk => hk) trivial (Below.refl _ _) (Nat.le_refl _) (by simp) ?_; (case hd => rfl); (case hg => rfl); (case hr => first | (go_simp; done) | (go_simp; rfl)); (case hp => exact (Reps.one (show Kd.M (Kd.int .u8) _ _ _ ((a1 + 2) % 256) [.int .u8 ((a1 + 2) % 256)] from rfl) (Reps.none _ _)))
                  intro v146 w27 ho28 hb hg_ hnew_
                  clear hg_ hnew_
                  (first | rw [← Ny145.out] at ho28 | (simp only [Int.reduceToNat] at ho28; rw [← Ny145.out] at ho28))
                  have n0_ := Aside0.mk (Kd.R_lower ho28 (below_size (by repeat (first | (with_reducible first | exact HB.out | apply below_alloc | apply pw_below_drewN | apply below_drew1) | exact HB.out))))
                  have n1_ := Aside0.mk (below_step (by repeat (first | (with_reducible first | exact HB.out | apply below_alloc | apply pw_below_drewN | apply below_drew1) | exact HB.out)) hb)
                  clear HB
                  have HO147 := n0_
                  have HB := n1_
                  clear n0_ n1_
                  clear hb ho28
                  refine hK.out _ _ trivial (fun hHeld => ?_)
                  clear hK K
                  refine norm_ (a' := ?_) ?_ ?_
                  rotate_left
                  · show Act.put _ (some 41) _ = _
                    simp only [Act.put, List.setIfInBounds_toArray, List.set_cons_zero, List.set_cons_succ, i64_w, i32_w]
                    rfl
                  refine one_ (i := 3) (N := some 42) #[true, true, true, true, true, true, true, false, false] rfl rfl (one_of HT_.out (by kernel_rfl)) (by decide) (fun K hK => ?_)
                  have hcv29 := own_string (P := Try.prog) Try.underlying69 Try.underlying5 Try.underlying9 (Kd.own_of_R HO147.out)
                  refine value_ (w1 := ?_) (v := ?_) (by rfl) rfl ?_ ?_
                  rotate_left 2
                  · go_simp
                    constructor
                    · rfl
                    · rfl
                  clear hcv29
                  refine hK.out _ _ trivial (fun hHeld => ?_)
                  clear hK K
                  refine norm_ (a' := ?_) ?_ ?_
                  rotate_left
                  · show Act.put _ (some 42) _ = _
                    simp only [Act.put, List.setIfInBounds_toArray, List.set_cons_zero, List.set_cons_succ, i64_w, i32_w]
                    rfl
                  exact norm_ (by simp only [putAll, Act.put, List.setIfInBounds_toArray, List.set_cons_zero, List.set_cons_succ]) (hCont (v146) _ ⟨(by (with_reducible repeat (first | apply Kd.R_alloc | apply Kd.R_drewN | apply Kd.R_drew)); exact HO147.out), (by repeat (first | (with_reducible first | exact HB.out | apply below_alloc | apply pw_below_drewN | apply below_drew1) | exact HB.out))⟩)
              rintro v146 w30 ⟨h0_, h1_⟩
              have n0_ : Aside0 (Kd.R (Kd.int .u8) 5 w30 w.heap.size (fun _ => True) v146 y145) := ⟨h0_⟩
              have n1_ : Aside0 (Below w.heap.size w w30) := ⟨h1_⟩
              clear HB
              clear h0_ h1_
              have HO147 := n0_
              have HB := n1_
              clear n0_ n1_
              have hHeld := trivial
              refine norm_ (a' := ?_) ?_ ?_
              rotate_left
              · simp only [putAll, Act.put, List.setIfInBounds_toArray, List.set_cons_zero, List.set_cons_succ]
                rfl
              refine pure_ (i := 7) (N := some 46) (v := ?_) (a' := ?_) #[true, true, true, true, true, true, true, true, false] rfl rfl (any_of HT_.out (by kernel_rfl)) (fun _ _ _ h => h) (Or.inl ⟨by rfl, ?_⟩) ?_ ?_
              rotate_left
              · intro w'
                go_simp
                with_reducible rfl
              rotate_left
              · simp only [Act.put, List.setIfInBounds_toArray, List.set_cons_zero, List.set_cons_succ, i64_w, i32_w]
                rfl
              refine pure_ (i := 8) (N := some 6) (v := ?_) (a' := ?_) #[true, true, true, true, true, true, true, true, true] rfl rfl (any_of HT_.out (by kernel_rfl)) (fun _ _ _ h => h) (Or.inl ⟨by rfl, ?_⟩) ?_ ?_
              rotate_left
              · intro w'
                go_simp
                with_reducible rfl
              rotate_left
              · simp only [Act.put, List.setIfInBounds_toArray, List.set_cons_zero, List.set_cons_succ, i64_w, i32_w]
                rfl
              refine done_ (done_of HT_.out (by kernel_rfl)) ?_
              try go_wp2
              go_ret
              exact ⟨by first | rfl | (simp [errW_none, errW_some] <;> rfl) | (simp [*, errW_none, errW_some] <;> rfl), by repeat (first | (with_reducible first | exact HB.out | apply below_alloc | apply pw_below_drewN | apply below_drew1) | exact HB.out)⟩
            · rw [if_neg c24] at H
              exact absurd H (by simp)

end Go.Proofs.Ytjnookhdiolhgaa.PAll
