/- The Lean function of laws_sameAll and its contract: the Go function comes to exactly what the Lean function answers (laid by the kit's print program). -/
import Derived.Test.YtjnookhdiolhgaaPAllx0
import Derived.Test.YtjnookhdiolhgaaPlawssame
namespace Go.Proofs.Ytjnookhdiolhgaa.PAll
open Go.RowKit Go.Proofs.YtjnookhdiolhgaaW.PrintWords Go.Proofs.YtjnookhdiolhgaaW.PrintLast Go.Proofs.YtjnookhdiolhgaaW.PrintMore
attribute [local go_sem] max2_int min2_int max_two min_two max_three min_three max_four min_four   -- for this text's walks alone
set_option linter.unusedVariables false
set_option linter.unusedSimpArgs false
-- NOT PRINTED: function 33 (laws_implVal)

-- NOT PRINTED: function 10 (laws_FnPackRead)

-- NOT PRINTED: function 34 (impl_UnpackAll)

-- NOT PRINTED: function 11 (laws_FnPackBack)

-- NOT PRINTED: function 35 (laws_allGood)

/-! ### laws_sameAll: function 36 -/
def laws_sameAll.l0 : Nat → List (S26) → List (S26) → Int → Int → Option (Bool)
  | 0, _, _, _, _ => none
  | k + 1, x0, x1, x12, x13 => if x13 < x12 then (if 0 ≤ x13 then (if x13 < (x0.length : Int) then (if x13 < (x1.length : Int) then ((laws_same.f k ((rd_T26 x0 x13).f0) ((rd_T26 x0 x13).f1) ((rd_T26 x0 x13).f2) ((rd_T26 x0 x13).f3) ((rd_T26 x0 x13).f4) ((rd_T26 x0 x13).f5) ((rd_T26 x0 x13).f6) ((rd_T26 x1 x13).f0) ((rd_T26 x1 x13).f1) ((rd_T26 x1 x13).f2) ((rd_T26 x1 x13).f3) ((rd_T26 x1 x13).f4) ((rd_T26 x1 x13).f5) ((rd_T26 x1 x13).f6)).bind fun t235 => (if t235 = true then (laws_sameAll.l0 k x0 x1 x12 (wrap64 (x13 + 1))) else (some false))) else (none)) else (none)) else (none)) else (some true)
def laws_sameAll.f (k : Nat) (l0 : List (S26)) (l1 : List (S26)) : Option (Bool) := if (l0.length : Int) = (l1.length : Int) then (laws_sameAll.l0 k l0 l1 (l0.length : Int) 0) else (some false)
theorem laws_sameAll.mono_l : ∀ k, (∀ y0 y1 y2 y3, LeO (laws_sameAll.l0 k y0 y1 y2 y3) (laws_sameAll.l0 (k + 1) y0 y1 y2 y3))
  | 0 => fun _ _ _ _ r h => by simp [laws_sameAll.l0] at h
  | k + 1 => by
    have ih0 := laws_sameAll.mono_l k
    · intro y0 y1 y2 y3
      unfold laws_sameAll.l0
      repeat' first
      | (with_reducible exact ih0 _ _ _ _)
      | (with_reducible exact laws_same.mono _ _ _ _ _ _ _ _ _ _ _ _ _ _ _)
      | (with_reducible exact LeO.refl _)
      | (with_reducible exact LeO.none _)
      | (with_reducible refine LeO.ite ?_ ?_)
      | (with_reducible refine LeO.bind ?_ (fun _ => ?_))
      | exact ih0 _ _ _ _
      | exact laws_same.mono _ _ _ _ _ _ _ _ _ _ _ _ _ _ _
      | exact LeO.none _
      | refine LeO.ite ?_ ?_
      | refine LeO.bind ?_ (fun _ => ?_)
theorem laws_sameAll.mono : ∀ a0 a1 k, LeO (laws_sameAll.f k a0 a1) (laws_sameAll.f (k + 1) a0 a1) := by
  intro a0 a1 k
  have ih0 := laws_sameAll.mono_l k
  unfold laws_sameAll.f
  repeat' first
      | (with_reducible exact ih0 _ _ _ _)
      | (with_reducible exact laws_same.mono _ _ _ _ _ _ _ _ _ _ _ _ _ _ _)
      | (with_reducible exact LeO.refl _)
      | (with_reducible exact LeO.none _)
      | (with_reducible refine LeO.ite ?_ ?_)
      | (with_reducible refine LeO.bind ?_ (fun _ => ?_))
      | exact ih0 _ _ _ _
      | exact laws_same.mono _ _ _ _ _ _ _ _ _ _ _ _ _ _ _
      | exact LeO.none _
      | refine LeO.ite ?_ ?_
      | refine LeO.bind ?_ (fun _ => ?_)
def laws_sameAll.T6 : Bool × List (List Nat × List Nat) := (true, [([], []), ([], []), ([0, 1], [0, 1]), ([2], [2]), ([], []), ([], []), ([4, 5], [4, 5]), ([6], [6]), ([3, 7], [3, 7]), ([8], [8])])
def laws_sameAll.B6 : List Nat := [0, 0, 3, 7, 0, 0, 48, 112, 255, 511]
theorem laws_sameAll.tab6 : rtab .any (opsOf Try.f36 6) = laws_sameAll.T6 := by kernel_rfl
theorem laws_sameAll.bits6 : waitsOk laws_sameAll.T6.2 laws_sameAll.B6 = true := by kernel_rfl
set_option maxHeartbeats 8000000 in
set_option maxRecDepth 100000 in
theorem laws_sameAll.calls (k : Nat) (A0 : Option Addr) (c0 : Nat) (l0 : List (S26)) (A1 : Option Addr) (c1 : Nat) (l1 : List (S26)) (r : Bool) (w : World) (hr0 : Kd.C k26 w A0 l0.length l0) (hc0 : l0.length ≤ c0) (hr1 : Kd.C k26 w A1 l1.length l1) (hc1 : l1.length ≤ c1) (h : laws_sameAll.f k l0 l1 = some r) :
    Calls Try.prog 36 #[.slice A0 l0.length c0, .slice A1 l1.length c1] w fun e w' => e = .returned (.bool r) ∧ Below w.heap.size w w' := by
  have hu26 := Try.underlying26
  have HR0 := Aside0.mk hr0
  have HC0 := Aside0.mk hc0
  clear hr0 hc0
  have HR1 := Aside0.mk hr1
  have HC1 := Aside0.mk hc1
  clear hr1 hc1
  have HB := Aside0.mk (Below.refl w.heap.size w)
  have H : (if (l0.length : Int) = (l1.length : Int) then (laws_sameAll.l0 k l0 l1 (l0.length : Int) 0) else (some false)) = some r := h
  clear h
  by_cases c3 : (l0.length : Int) = (l1.length : Int)
  · rw [if_pos c3] at H
    have c3b0 : ((l0.length : Int) == (l1.length : Int)) = true := beq_iff_eq.mpr c3
    have c3b1 : ((l0.length : Int) != (l1.length : Int)) = false := bne_eq_false_iff_eq.mpr c3
    have c3b2 : (l0.length == l1.length) = true := by first | simpa using c3 | (simp at c3 ⊢; omega)
    clear c3
    have H' := Aside0.mk H
    clear H
    go_enter Try.func36, Try.ntmps36
    go_wp2
    go_loopg [13] k (fun kq v13 w' => ∃ (x13_1 : Int), v13 = .int .i64 x13_1 ∧ Aside0 (laws_sameAll.l0 kq l0 l1 (l0.length : Int) x13_1 = some r) ∧ Aside0 (kq ≤ k) ∧ Aside0 (Below w.heap.size w w'))
    case atStart => exact ⟨(0), (by first | rfl | (simp; done) | (simp [*]; done)), H', ⟨Nat.le_refl _⟩, ⟨by repeat (first | (with_reducible first | exact HB.out | apply below_alloc | apply pw_below_drewN | apply below_drew1) | exact HB.out)⟩⟩
    case round =>
      clear H'
      try clear c1
      try clear p2
      try clear c3
      try clear c3b0
      try clear c3b1
      try clear c3b2
      obtain ⟨x13_1, rfl, HA, HK1, HB⟩ := hrel
      cases gk with
      | zero => exact absurd HA.out (by simp [laws_sameAll.l0])
      | succ k1 =>
        have H := HA.out
        clear HA
        simp only [laws_sameAll.l0] at H
        by_cases c4 : x13_1 < (l0.length : Int)
        · rw [if_pos c4] at H
          have c4b0 : decide (x13_1 < (l0.length : Int)) = true := decide_eq_true c4
          clear c4
          by_cases c5 : 0 ≤ x13_1
          · rw [if_pos c5] at H
            have c5b0 : decide (0 ≤ x13_1) = true := decide_eq_true c5
            clear c5
            by_cases c6 : x13_1 < (l0.length : Int)
            · rw [if_pos c6] at H
              have c6b0 : decide (x13_1 < (l0.length : Int)) = true := decide_eq_true c6
              clear c6
              by_cases c7 : x13_1 < (l1.length : Int)
              · rw [if_pos c7] at H
                have c7b0 : decide (x13_1 < (l1.length : Int)) = true := decide_eq_true c7
                clear c7
                replace H := Option.bind_eq_some_iff.mp H
                obtain ⟨t235, A80, H⟩ := H
                replace H : (if t235 = true then (laws_sameAll.l0 k1 l0 l1 (l0.length : Int) (wrap64 (x13_1 + 1))) else (some false)) = some r := H
                have A8 := Aside0.mk A80
                clear A80
                by_cases c9 : t235 = true
                · subst c9
                  have H1 : (laws_sameAll.l0 k1 l0 l1 (l0.length : Int) (wrap64 (x13_1 + 1))) = some r := by rw [if_pos rfl] at H; exact H
                  clear H
                  have H := H1
                  clear H1
                  have H' := Aside0.mk H
                  clear H
                  try go_wp2
                  have n0_ := Aside0.mk (below_drew1 HB.out)
                  clear HB
                  have HB := n0_
                  clear n0_
                  have p233 : 0 ≤ (x13_1 : Int) := of_decide_eq_true (by first | (with_reducible assumption) | assumption)
                  have q233 : x13_1 < (l0.length : Int) := of_decide_eq_true (by first | (with_reducible assumption) | assumption)
                  obtain ⟨ad233, A233_5, c233_5, A233_6, c233_6, e233, hx233_0, hx233_1, hx233_2, hx233_3, hx233_4, hx233_5, hx233_6, hl233_5, hi233_5, hl233_6, hi233_6⟩ := at_T26 HR0.out x13_1 p233 q233
                  have hw233_6 := hx233_6
                  have hw233_5 := hx233_5
                  have hw233_4 := hx233_4
                  have hw233_3 := hx233_3
                  have hw233_2 := hx233_2
                  have hw233_1 := hx233_1
                  have hw233_0 := hx233_0
                  cases e233
                  replace hx233_0 := (HB.out.cell (World.block_lt_of_cell? w _ hx233_0)).trans hx233_0
                  replace hx233_1 := (HB.out.cell (World.block_lt_of_cell? w _ hx233_1)).trans hx233_1
                  replace hx233_2 := (HB.out.cell (World.block_lt_of_cell? w _ hx233_2)).trans hx233_2
                  replace hx233_3 := (HB.out.cell (World.block_lt_of_cell? w _ hx233_3)).trans hx233_3
                  replace hx233_4 := (HB.out.cell (World.block_lt_of_cell? w _ hx233_4)).trans hx233_4
                  replace hx233_5 := (HB.out.cell (World.block_lt_of_cell? w _ hx233_5)).trans hx233_5
                  replace hx233_6 := (HB.out.cell (World.block_lt_of_cell? w _ hx233_6)).trans hx233_6
                  have HR233_5 := Aside0.mk hi233_5
                  have HC233_5 := Aside0.mk hl233_5
                  clear hi233_5 hl233_5
                  have HR233_6 := Aside0.mk hi233_6
                  have HC233_6 := Aside0.mk hl233_6
                  clear hi233_6 hl233_6
                  replace p233 := eq_true p233
                  replace q233 := eq_true q233
                  have p234 : 0 ≤ (x13_1 : Int) := of_decide_eq_true (by first | (with_reducible assumption) | assumption)
                  have q234 : x13_1 < (l1.length : Int) := of_decide_eq_true (by first | (with_reducible assumption) | assumption)
                  obtain ⟨ad234, A234_5, c234_5, A234_6, c234_6, e234, hx234_0, hx234_1, hx234_2, hx234_3, hx234_4, hx234_5, hx234_6, hl234_5, hi234_5, hl234_6, hi234_6⟩ := at_T26 HR1.out x13_1 p234 q234
                  have hw234_6 := hx234_6
                  have hw234_5 := hx234_5
                  have hw234_4 := hx234_4
                  have hw234_3 := hx234_3
                  have hw234_2 := hx234_2
                  have hw234_1 := hx234_1
                  have hw234_0 := hx234_0
                  cases e234
                  replace hx234_0 := (HB.out.cell (World.block_lt_of_cell? w _ hx234_0)).trans hx234_0
                  replace hx234_1 := (HB.out.cell (World.block_lt_of_cell? w _ hx234_1)).trans hx234_1
                  replace hx234_2 := (HB.out.cell (World.block_lt_of_cell? w _ hx234_2)).trans hx234_2
                  replace hx234_3 := (HB.out.cell (World.block_lt_of_cell? w _ hx234_3)).trans hx234_3
                  replace hx234_4 := (HB.out.cell (World.block_lt_of_cell? w _ hx234_4)).trans hx234_4
                  replace hx234_5 := (HB.out.cell (World.block_lt_of_cell? w _ hx234_5)).trans hx234_5
                  replace hx234_6 := (HB.out.cell (World.block_lt_of_cell? w _ hx234_6)).trans hx234_6
                  have HR234_5 := Aside0.mk hi234_5
                  have HC234_5 := Aside0.mk hl234_5
                  clear hi234_5 hl234_5
                  have HR234_6 := Aside0.mk hi234_6
                  have HC234_6 := Aside0.mk hl234_6
                  clear hi234_6 hl234_6
                  replace p234 := eq_true p234
                  replace q234 := eq_true q234
                  refine start_ (n := 10) (S := fun w' => w'.cell? (ad233.add ((x13_1).toNat * 7)) = some (.int .i64 ((rd_T26 l0 x13_1).f0)) ∧ w'.cell? ⟨(ad233.add ((x13_1).toNat * 7)).block, (ad233.add ((x13_1).toNat * 7)).off + 1, none⟩ = some (.bool ((rd_T26 l0 x13_1).f1)) ∧ w'.cell? ⟨(ad233.add ((x13_1).toNat * 7)).block, (ad233.add ((x13_1).toNat * 7)).off + 2, none⟩ = some (.int .i64 ((rd_T26 l0 x13_1).f2)) ∧ w'.cell? ⟨(ad233.add ((x13_1).toNat * 7)).block, (ad233.add ((x13_1).toNat * 7)).off + 3, none⟩ = some (.int .u64 ((rd_T26 l0 x13_1).f3)) ∧ w'.cell? ⟨(ad233.add ((x13_1).toNat * 7)).block, (ad233.add ((x13_1).toNat * 7)).off + 4, none⟩ = some (.string ((rd_T26 l0 x13_1).f4)) ∧ w'.cell? ⟨(ad233.add ((x13_1).toNat * 7)).block, (ad233.add ((x13_1).toNat * 7)).off + 5, none⟩ = some (.slice A233_5 ((rd_T26 l0 x13_1).f5).length c233_5) ∧ w'.cell? ⟨(ad233.add ((x13_1).toNat * 7)).block, (ad233.add ((x13_1).toNat * 7)).off + 6, none⟩ = some (.slice A233_6 ((rd_T26 l0 x13_1).f6).length c233_6) ∧ w'.cell? (ad234.add ((x13_1).toNat * 7)) = some (.int .i64 ((rd_T26 l1 x13_1).f0)) ∧ w'.cell? ⟨(ad234.add ((x13_1).toNat * 7)).block, (ad234.add ((x13_1).toNat * 7)).off + 1, none⟩ = some (.bool ((rd_T26 l1 x13_1).f1)) ∧ w'.cell? ⟨(ad234.add ((x13_1).toNat * 7)).block, (ad234.add ((x13_1).toNat * 7)).off + 2, none⟩ = some (.int .i64 ((rd_T26 l1 x13_1).f2)) ∧ w'.cell? ⟨(ad234.add ((x13_1).toNat * 7)).block, (ad234.add ((x13_1).toNat * 7)).off + 3, none⟩ = some (.int .u64 ((rd_T26 l1 x13_1).f3)) ∧ w'.cell? ⟨(ad234.add ((x13_1).toNat * 7)).block, (ad234.add ((x13_1).toNat * 7)).off + 4, none⟩ = some (.string ((rd_T26 l1 x13_1).f4)) ∧ w'.cell? ⟨(ad234.add ((x13_1).toNat * 7)).block, (ad234.add ((x13_1).toNat * 7)).off + 5, none⟩ = some (.slice A234_5 ((rd_T26 l1 x13_1).f5).length c234_5) ∧ w'.cell? ⟨(ad234.add ((x13_1).toNat * 7)).block, (ad234.add ((x13_1).toNat * 7)).off + 6, none⟩ = some (.slice A234_6 ((rd_T26 l1 x13_1).f6).length c234_6)) (ds := []) #[false, false, false, false, false, false, false, false, false, false] (by kernel_rfl) rfl rfl ⟨((HB.out.cell (World.block_lt_of_cell? w _ hw233_0)).trans hw233_0), ((HB.out.cell (World.block_lt_of_cell? w _ hw233_1)).trans hw233_1), ((HB.out.cell (World.block_lt_of_cell? w _ hw233_2)).trans hw233_2), ((HB.out.cell (World.block_lt_of_cell? w _ hw233_3)).trans hw233_3), ((HB.out.cell (World.block_lt_of_cell? w _ hw233_4)).trans hw233_4), ((HB.out.cell (World.block_lt_of_cell? w _ hw233_5)).trans hw233_5), ((HB.out.cell (World.block_lt_of_cell? w _ hw233_6)).trans hw233_6), ((HB.out.cell (World.block_lt_of_cell? w _ hw234_0)).trans hw234_0), ((HB.out.cell (World.block_lt_of_cell? w _ hw234_1)).trans hw234_1), ((HB.out.cell (World.block_lt_of_cell? w _ hw234_2)).trans hw234_2), ((HB.out.cell (World.block_lt_of_cell? w _ hw234_3)).trans hw234_3), ((HB.out.cell (World.block_lt_of_cell? w _ hw234_4)).trans hw234_4), ((HB.out.cell (World.block_lt_of_cell? w _ hw234_5)).trans hw234_5), ((HB.out.cell (World.block_lt_of_cell? w _ hw234_6)).trans hw234_6)⟩ (fun hHeld => ?_); refine with_tabW laws_sameAll.tab6 laws_sameAll.bits6 (fun HT_ HW_ => ?_)
                  generalize wr.drew = w10 at HB HR233_5 HR233_6 HR234_5 HR234_6 hx233_0 hx233_1 hx233_2 hx233_3 hx233_4 hx233_5 hx233_6 hx234_0 hx234_1 hx234_2 hx234_3 hx234_4 hx234_5 hx234_6 hHeld ⊢
                  refine pure_ (i := 0) (N := some 16) (v := ?_) (a' := ?_) #[true, false, false, false, false, false, false, false, false, false] rfl rfl (any_of HT_.out (by kernel_rfl)) (fun _ _ _ h => h) (Or.inl ⟨by rfl, ?_⟩) ?_ ?_
                  rotate_left
                  · intro w'
                    go_simp
                    with_reducible rfl
                  rotate_left
                  · simp only [Act.put, List.setIfInBounds_toArray, List.set_cons_zero, List.set_cons_succ, i64_w, i32_w]
                    rfl
                  refine pure_ (i := 1) (N := some 17) (v := ?_) (a' := ?_) #[true, true, false, false, false, false, false, false, false, false] rfl rfl (any_of HT_.out (by kernel_rfl)) (fun _ _ _ h => h) (Or.inl ⟨by rfl, ?_⟩) ?_ ?_
                  rotate_left
                  · intro w'
                    go_simp
                    with_reducible rfl
                  rotate_left
                  · simp only [Act.put, List.setIfInBounds_toArray, List.set_cons_zero, List.set_cons_succ, i64_w, i32_w]
                    rfl
                  refine pure_ (i := 2) (N := some 18) (v := ?_) (a' := ?_) #[true, true, true, false, false, false, false, false, false, false] rfl rfl (any_of HT_.out (by kernel_rfl)) (fun _ _ _ h => h) (Or.inl ⟨by rfl, ?_⟩) ?_ ?_
                  rotate_left
                  · intro w'
                    go_simp
                    with_reducible rfl
                  rotate_left
                  · simp only [Act.put, List.setIfInBounds_toArray, List.set_cons_zero, List.set_cons_succ, i64_w, i32_w]
                    rfl
                  refine pure_ (i := 4) (N := some 20) (v := ?_) (a' := ?_) #[true, true, true, false, true, false, false, false, false, false] rfl rfl (any_of HT_.out (by kernel_rfl)) (fun _ _ _ h => h) (Or.inl ⟨by rfl, ?_⟩) ?_ ?_
                  rotate_left
                  · intro w'
                    go_simp
                    with_reducible rfl
                  rotate_left
                  · simp only [Act.put, List.setIfInBounds_toArray, List.set_cons_zero, List.set_cons_succ, i64_w, i32_w]
                    rfl
                  refine pure_ (i := 5) (N := some 21) (v := ?_) (a' := ?_) #[true, true, true, false, true, true, false, false, false, false] rfl rfl (any_of HT_.out (by kernel_rfl)) (fun _ _ _ h => h) (Or.inl ⟨by rfl, ?_⟩) ?_ ?_
                  rotate_left
                  · intro w'
                    go_simp
                    with_reducible rfl
                  rotate_left
                  · simp only [Act.put, List.setIfInBounds_toArray, List.set_cons_zero, List.set_cons_succ, i64_w, i32_w]
                    rfl
                  refine pure_ (i := 6) (N := some 22) (v := ?_) (a' := ?_) #[true, true, true, false, true, true, true, false, false, false] rfl rfl (any_of HT_.out (by kernel_rfl)) (fun _ _ _ h => h) (Or.inl ⟨by rfl, ?_⟩) ?_ ?_
                  rotate_left
                  · intro w'
                    go_simp
                    with_reducible rfl
                  rotate_left
                  · simp only [Act.put, List.setIfInBounds_toArray, List.set_cons_zero, List.set_cons_succ, i64_w, i32_w]
                    rfl
                  refine take_ (i := 3) (N := some 19) (v := ?_) (a' := ?_) #[true, true, true, true, true, true, true, false, false, false] rfl rfl (take_ofW HT_.out HW_.out (by kernel_rfl)) (fun _ _ _ h => h) (Or.inl ⟨by rfl, ?_⟩) hHeld ?_ ?_
                  rotate_left
                  · rintro w' ⟨s0, s1, s2, s3, s4, s5, s6, s7, s8, s9, s10, s11, s12, s13⟩
                    go_simp
                    with_reducible rfl
                  rotate_left
                  · simp only [Act.put, List.setIfInBounds_toArray, List.set_cons_zero, List.set_cons_succ, i64_w, i32_w]
                    rfl
                  refine take_ (i := 7) (N := some 23) (v := ?_) (a' := ?_) #[true, true, true, true, true, true, true, true, false, false] rfl rfl (take_ofW HT_.out HW_.out (by kernel_rfl)) (fun _ _ _ h => h) (Or.inl ⟨by rfl, ?_⟩) hHeld ?_ ?_
                  rotate_left
                  · rintro w' ⟨s0, s1, s2, s3, s4, s5, s6, s7, s8, s9, s10, s11, s12, s13⟩
                    go_simp
                    with_reducible rfl
                  rotate_left
                  · simp only [Act.put, List.setIfInBounds_toArray, List.set_cons_zero, List.set_cons_succ, i64_w, i32_w]
                    rfl
                  refine one_ (i := 8) (N := some 24) #[true, true, true, true, true, true, true, true, true, false] rfl rfl (one_of HT_.out (by kernel_rfl)) (by decide) (fun K hK => ?_)
                  refine goes_ Try.func32 (by kernel_rfl) rfl #[.agg #[.int .i64 ((rd_T26 l0 x13_1).f0), .bool ((rd_T26 l0 x13_1).f1), .int .i64 ((rd_T26 l0 x13_1).f2), .int .u64 ((rd_T26 l0 x13_1).f3), .string ((rd_T26 l0 x13_1).f4), .slice A233_5 ((rd_T26 l0 x13_1).f5).length c233_5, .slice A233_6 ((rd_T26 l0 x13_1).f6).length c233_6], .agg #[.int .i64 ((rd_T26 l1 x13_1).f0), .bool ((rd_T26 l1 x13_1).f1), .int .i64 ((rd_T26 l1 x13_1).f2), .int .u64 ((rd_T26 l1 x13_1).f3), .string ((rd_T26 l1 x13_1).f4), .slice A234_5 ((rd_T26 l1 x13_1).f5).length c234_5, .slice A234_6 ((rd_T26 l1 x13_1).f6).length c234_6]] (by rfl) rfl rfl (by (try simp only [List.map_toArray, List.map_cons, List.map_nil]); first | done | rfl | (simp only [List.length_drop, List.length_take]; rfl)) ?_
                  with_reducible refine (laws_same.calls k1 ((rd_T26 l0 x13_1).f0) ((rd_T26 l0 x13_1).f1) ((rd_T26 l0 x13_1).f2) ((rd_T26 l0 x13_1).f3) ((rd_T26 l0 x13_1).f4) _ _ ((rd_T26 l0 x13_1).f5) _ _ ((rd_T26 l0 x13_1).f6) ((rd_T26 l1 x13_1).f0) ((rd_T26 l1 x13_1).f1) ((rd_T26 l1 x13_1).f2) ((rd_T26 l1 x13_1).f3) ((rd_T26 l1 x13_1).f4) _ _ ((rd_T26 l1 x13_1).f5) _ _ ((rd_T26 l1 x13_1).f6) true _ ?side1 ?side2 ?side3 ?side4 ?side5 ?side6 ?side7 ?side8 A8.out).mono ?_
                  (case side1 => repeat (first | exact (Kd.C_below HR233_5.out HB.out) | (with_reducible refine Kd.C_alloc ?_ _) | (with_reducible refine Kd.C_drewN ?_ _) | (with_reducible refine Kd.C_drew ?_)))
                  (case side2 => exact HC233_5.out)
                  (case side3 => repeat (first | exact (Kd.C_below HR233_6.out HB.out) | (with_reducible refine Kd.C_alloc ?_ _) | (with_reducible refine Kd.C_drewN ?_ _) | (with_reducible refine Kd.C_drew ?_)))
                  (case side4 => exact HC233_6.out)
                  (case side5 => repeat (first | exact (Kd.C_below HR234_5.out HB.out) | (with_reducible refine Kd.C_alloc ?_ _) | (with_reducible refine Kd.C_drewN ?_ _) | (with_reducible refine Kd.C_drew ?_)))
                  (case side6 => exact HC234_5.out)
                  (case side7 => repeat (first | exact (Kd.C_below HR234_6.out HB.out) | (with_reducible refine Kd.C_alloc ?_ _) | (with_reducible refine Kd.C_drewN ?_ _) | (with_reducible refine Kd.C_drew ?_)))
                  (case side8 => exact HC234_6.out)
                  rintro e w11 ⟨rfl, hb⟩
                  refine ⟨_, rfl, ?_⟩
                  have n0_ := Aside0.mk (below_step (by repeat (first | (with_reducible first | exact HB.out | apply below_alloc | apply pw_below_drewN | apply below_drew1) | exact HB.out)) hb)
                  clear HB
                  have HB := n0_
                  clear n0_
                  (try clear hb)
                  (try clear hb2)
                  (try clear hk)
                  (try clear hi)
                  refine hK.out _ _ ⟨((HB.out.cell (World.block_lt_of_cell? w _ hw233_0)).trans hw233_0), ((HB.out.cell (World.block_lt_of_cell? w _ hw233_1)).trans hw233_1), ((HB.out.cell (World.block_lt_of_cell? w _ hw233_2)).trans hw233_2), ((HB.out.cell (World.block_lt_of_cell? w _ hw233_3)).trans hw233_3), ((HB.out.cell (World.block_lt_of_cell? w _ hw233_4)).trans hw233_4), ((HB.out.cell (World.block_lt_of_cell? w _ hw233_5)).trans hw233_5), ((HB.out.cell (World.block_lt_of_cell? w _ hw233_6)).trans hw233_6), ((HB.out.cell (World.block_lt_of_cell? w _ hw234_0)).trans hw234_0), ((HB.out.cell (World.block_lt_of_cell? w _ hw234_1)).trans hw234_1), ((HB.out.cell (World.block_lt_of_cell? w _ hw234_2)).trans hw234_2), ((HB.out.cell (World.block_lt_of_cell? w _ hw234_3)).trans hw234_3), ((HB.out.cell (World.block_lt_of_cell? w _ hw234_4)).trans hw234_4), ((HB.out.cell (World.block_lt_of_cell? w _ hw234_5)).trans hw234_5), ((HB.out.cell (World.block_lt_of_cell? w _ hw234_6)).trans hw234_6)⟩ (fun hHeld => ?_)
                  clear hK K
                  refine norm_ (a' := ?_) ?_ ?_
                  rotate_left
                  · show Act.put _ (some 24) _ = _
                    simp only [Act.put, List.setIfInBounds_toArray, List.set_cons_zero, List.set_cons_succ, i64_w, i32_w]
                    rfl
                  refine pure_ (i := 9) (N := some 25) (v := ?_) (a' := ?_) #[true, true, true, true, true, true, true, true, true, true] rfl rfl (any_of HT_.out (by kernel_rfl)) (fun _ _ _ h => h) (Or.inl ⟨by rfl, ?_⟩) ?_ ?_
                  rotate_left
                  · intro w'
                    go_simp
                    with_reducible rfl
                  rotate_left
                  · simp only [Act.put, List.setIfInBounds_toArray, List.set_cons_zero, List.set_cons_succ, i64_w, i32_w]
                    rfl
                  refine done_ (done_of HT_.out (by kernel_rfl)) ?_
                  try go_wp2
                  go_roundg k1
                  case measure => have := HK1.out; omega
                  case rel => exact ⟨(wrap64 (x13_1 + 1)), (by first | rfl | (simp; done) | (simp [*]; done)), H', ⟨by have := HK1.out; omega⟩, ⟨by repeat (first | (with_reducible first | exact HB.out | apply below_alloc | apply pw_below_drewN | apply below_drew1) | exact HB.out)⟩⟩
                · replace c9 := Bool.eq_false_iff.mpr c9
                  subst c9
                  have H1 : (some false) = some r := by rw [if_neg (show ¬ (false = true) by decide)] at H; exact H
                  clear H
                  have H := H1
                  clear H1
                  obtain rfl := Option.some.inj H
                  try go_wp2
                  have n0_ := Aside0.mk (below_drew1 HB.out)
                  clear HB
                  have HB := n0_
                  clear n0_
                  have p233 : 0 ≤ (x13_1 : Int) := of_decide_eq_true (by first | (with_reducible assumption) | assumption)
                  have q233 : x13_1 < (l0.length : Int) := of_decide_eq_true (by first | (with_reducible assumption) | assumption)
                  obtain ⟨ad233, A233_5, c233_5, A233_6, c233_6, e233, hx233_0, hx233_1, hx233_2, hx233_3, hx233_4, hx233_5, hx233_6, hl233_5, hi233_5, hl233_6, hi233_6⟩ := at_T26 HR0.out x13_1 p233 q233
                  have hw233_6 := hx233_6
                  have hw233_5 := hx233_5
                  have hw233_4 := hx233_4
                  have hw233_3 := hx233_3
                  have hw233_2 := hx233_2
                  have hw233_1 := hx233_1
                  have hw233_0 := hx233_0
                  cases e233
                  replace hx233_0 := (HB.out.cell (World.block_lt_of_cell? w _ hx233_0)).trans hx233_0
                  replace hx233_1 := (HB.out.cell (World.block_lt_of_cell? w _ hx233_1)).trans hx233_1
                  replace hx233_2 := (HB.out.cell (World.block_lt_of_cell? w _ hx233_2)).trans hx233_2
                  replace hx233_3 := (HB.out.cell (World.block_lt_of_cell? w _ hx233_3)).trans hx233_3
                  replace hx233_4 := (HB.out.cell (World.block_lt_of_cell? w _ hx233_4)).trans hx233_4
                  replace hx233_5 := (HB.out.cell (World.block_lt_of_cell? w _ hx233_5)).trans hx233_5
                  replace hx233_6 := (HB.out.cell (World.block_lt_of_cell? w _ hx233_6)).trans hx233_6
                  have HR233_5 := Aside0.mk hi233_5
                  have HC233_5 := Aside0.mk hl233_5
                  clear hi233_5 hl233_5
                  have HR233_6 := Aside0.mk hi233_6
                  have HC233_6 := Aside0.mk hl233_6
                  clear hi233_6 hl233_6
                  replace p233 := eq_true p233
                  replace q233 := eq_true q233
                  have p234 : 0 ≤ (x13_1 : Int) := of_decide_eq_true (by first | (with_reducible assumption) | assumption)
                  have q234 : x13_1 < (l1.length : Int) := of_decide_eq_true (by first | (with_reducible assumption) | assumption)
                  obtain ⟨ad234, A234_5, c234_5, A234_6, c234_6, e234, hx234_0, hx234_1, hx234_2, hx234_3, hx234_4, hx234_5, hx234_6, hl234_5, hi234_5, hl234_6, hi234_6⟩ := at_T26 HR1.out x13_1 p234 q234
                  have hw234_6 := hx234_6
                  have hw234_5 := hx234_5
                  have hw234_4 := hx234_4
                  have hw234_3 := hx234_3
                  have hw234_2 := hx234_2
                  have hw234_1 := hx234_1
                  have hw234_0 := hx234_0
                  cases e234
                  replace hx234_0 := (HB.out.cell (World.block_lt_of_cell? w _ hx234_0)).trans hx234_0
                  replace hx234_1 := (HB.out.cell (World.block_lt_of_cell? w _ hx234_1)).trans hx234_1
                  replace hx234_2 := (HB.out.cell (World.block_lt_of_cell? w _ hx234_2)).trans hx234_2
                  replace hx234_3 := (HB.out.cell (World.block_lt_of_cell? w _ hx234_3)).trans hx234_3
                  replace hx234_4 := (HB.out.cell (World.block_lt_of_cell? w _ hx234_4)).trans hx234_4
                  replace hx234_5 := (HB.out.cell (World.block_lt_of_cell? w _ hx234_5)).trans hx234_5
                  replace hx234_6 := (HB.out.cell (World.block_lt_of_cell? w _ hx234_6)).trans hx234_6
                  have HR234_5 := Aside0.mk hi234_5
                  have HC234_5 := Aside0.mk hl234_5
                  clear hi234_5 hl234_5
                  have HR234_6 := Aside0.mk hi234_6
                  have HC234_6 := Aside0.mk hl234_6
                  clear hi234_6 hl234_6
                  replace p234 := eq_true p234
                  replace q234 := eq_true q234
                  refine start_ (n := 10) (S := fun w' => w'.cell? (ad233.add ((x13_1).toNat * 7)) = some (.int .i64 ((rd_T26 l0 x13_1).f0)) ∧ w'.cell? ⟨(ad233.add ((x13_1).toNat * 7)).block, (ad233.add ((x13_1).toNat * 7)).off + 1, none⟩ = some (.bool ((rd_T26 l0 x13_1).f1)) ∧ w'.cell? ⟨(ad233.add ((x13_1).toNat * 7)).block, (ad233.add ((x13_1).toNat * 7)).off + 2, none⟩ = some (.int .i64 ((rd_T26 l0 x13_1).f2)) ∧ w'.cell? ⟨(ad233.add ((x13_1).toNat * 7)).block, (ad233.add ((x13_1).toNat * 7)).off + 3, none⟩ = some (.int .u64 ((rd_T26 l0 x13_1).f3)) ∧ w'.cell? ⟨(ad233.add ((x13_1).toNat * 7)).block, (ad233.add ((x13_1).toNat * 7)).off + 4, none⟩ = some (.string ((rd_T26 l0 x13_1).f4)) ∧ w'.cell? ⟨(ad233.add ((x13_1).toNat * 7)).block, (ad233.add ((x13_1).toNat * 7)).off + 5, none⟩ = some (.slice A233_5 ((rd_T26 l0 x13_1).f5).length c233_5) ∧ w'.cell? ⟨(ad233.add ((x13_1).toNat * 7)).block, (ad233.add ((x13_1).toNat * 7)).off + 6, none⟩ = some (.slice A233_6 ((rd_T26 l0 x13_1).f6).length c233_6) ∧ w'.cell? (ad234.add ((x13_1).toNat * 7)) = some (.int .i64 ((rd_T26 l1 x13_1).f0)) ∧ w'.cell? ⟨(ad234.add ((x13_1).toNat * 7)).block, (ad234.add ((x13_1).toNat * 7)).off + 1, none⟩ = some (.bool ((rd_T26 l1 x13_1).f1)) ∧ w'.cell? ⟨(ad234.add ((x13_1).toNat * 7)).block, (ad234.add ((x13_1).toNat * 7)).off + 2, none⟩ = some (.int .i64 ((rd_T26 l1 x13_1).f2)) ∧ w'.cell? ⟨(ad234.add ((x13_1).toNat * 7)).block, (ad234.add ((x13_1).toNat * 7)).off + 3, none⟩ = some (.int .u64 ((rd_T26 l1 x13_1).f3)) ∧ w'.cell? ⟨(ad234.add ((x13_1).toNat * 7)).block, (ad234.add ((x13_1).toNat * 7)).off + 4, none⟩ = some (.string ((rd_T26 l1 x13_1).f4)) ∧ w'.cell? ⟨(ad234.add ((x13_1).toNat * 7)).block, (ad234.add ((x13_1).toNat * 7)).off + 5, none⟩ = some (.slice A234_5 ((rd_T26 l1 x13_1).f5).length c234_5) ∧ w'.cell? ⟨(ad234.add ((x13_1).toNat * 7)).block, (ad234.add ((x13_1).toNat * 7)).off + 6, none⟩ = some (.slice A234_6 ((rd_T26 l1 x13_1).f6).length c234_6)) (ds := []) #[false, false, false, false, false, false, false, false, false, false] (by kernel_rfl) rfl rfl ⟨((HB.out.cell (World.block_lt_of_cell? w _ hw233_0)).trans hw233_0), ((HB.out.cell (World.block_lt_of_cell? w _ hw233_1)).trans hw233_1), ((HB.out.cell (World.block_lt_of_cell? w _ hw233_2)).trans hw233_2), ((HB.out.cell (World.block_lt_of_cell? w _ hw233_3)).trans hw233_3), ((HB.out.cell (World.block_lt_of_cell? w _ hw233_4)).trans hw233_4), ((HB.out.cell (World.block_lt_of_cell? w _ hw233_5)).trans hw233_5), ((HB.out.cell (World.block_lt_of_cell? w _ hw233_6)).trans hw233_6), ((HB.out.cell (World.block_lt_of_cell? w _ hw234_0)).trans hw234_0), ((HB.out.cell (World.block_lt_of_cell? w _ hw234_1)).trans hw234_1), ((HB.out.cell (World.block_lt_of_cell? w _ hw234_2)).trans hw234_2), ((HB.out.cell (World.block_lt_of_cell? w _ hw234_3)).trans hw234_3), ((HB.out.cell (World.block_lt_of_cell? w _ hw234_4)).trans hw234_4), ((HB.out.cell (World.block_lt_of_cell? w _ hw234_5)).trans hw234_5), ((HB.out.cell (World.block_lt_of_cell? w _ hw234_6)).trans hw234_6)⟩ (fun hHeld => ?_); refine with_tabW laws_sameAll.tab6 laws_sameAll.bits6 (fun HT_ HW_ => ?_)
                  generalize wr.drew = w12 at HB HR233_5 HR233_6 HR234_5 HR234_6 hx233_0 hx233_1 hx233_2 hx233_3 hx233_4 hx233_5 hx233_6 hx234_0 hx234_1 hx234_2 hx234_3 hx234_4 hx234_5 hx234_6 hHeld ⊢
                  refine pure_ (i := 0) (N := some 16) (v := ?_) (a' := ?_) #[true, false, false, false, false, false, false, false, false, false] rfl rfl (any_of HT_.out (by kernel_rfl)) (fun _ _ _ h => h) (Or.inl ⟨by rfl, ?_⟩) ?_ ?_
                  rotate_left
                  · intro w'
                    go_simp
                    with_reducible rfl
                  rotate_left
                  · simp only [Act.put, List.setIfInBounds_toArray, List.set_cons_zero, List.set_cons_succ, i64_w, i32_w]
                    rfl
                  refine pure_ (i := 1) (N := some 17) (v := ?_) (a' := ?_) #[true, true, false, false, false, false, false, false, false, false] rfl rfl (any_of HT_.out (by kernel_rfl)) (fun _ _ _ h => h) (Or.inl ⟨by rfl, ?_⟩) ?_ ?_
                  rotate_left
                  · intro w'
                    go_simp
                    with_reducible rfl
                  rotate_left
                  · simp only [Act.put, List.setIfInBounds_toArray, List.set_cons_zero, List.set_cons_succ, i64_w, i32_w]
                    rfl
                  refine pure_ (i := 2) (N := some 18) (v := ?_) (a' := ?_) #[true, true, true, false, false, false, false, false, false, false] rfl rfl (any_of HT_.out (by kernel_rfl)) (fun _ _ _ h => h) (Or.inl ⟨by rfl, ?_⟩) ?_ ?_
                  rotate_left
                  · intro w'
                    go_simp
                    with_reducible rfl
                  rotate_left
                  · simp only [Act.put, List.setIfInBounds_toArray, List.set_cons_zero, List.set_cons_succ, i64_w, i32_w]
                    rfl
                  refine pure_ (i := 4) (N := some 20) (v := ?_) (a' := ?_) #[true, true, true, false, true, false, false, false, false, false] rfl rfl (any_of HT_.out (by kernel_rfl)) (fun _ _ _ h => h) (Or.inl ⟨by rfl, ?_⟩) ?_ ?_
                  rotate_left
                  · intro w'
                    go_simp
                    with_reducible rfl
                  rotate_left
                  · simp only [Act.put, List.setIfInBounds_toArray, List.set_cons_zero, List.set_cons_succ, i64_w, i32_w]
                    rfl
                  refine pure_ (i := 5) (N := some 21) (v := ?_) (a' := ?_) #[true, true, true, false, true, true, false, false, false, false] rfl rfl (any_of HT_.out (by kernel_rfl)) (fun _ _ _ h => h) (Or.inl ⟨by rfl, ?_⟩) ?_ ?_
                  rotate_left
                  · intro w'
                    go_simp
                    with_reducible rfl
                  rotate_left
                  · simp only [Act.put, List.setIfInBounds_toArray, List.set_cons_zero, List.set_cons_succ, i64_w, i32_w]
                    rfl
                  refine pure_ (i := 6) (N := some 22) (v := ?_) (a' := ?_) #[true, true, true, false, true, true, true, false, false, false] rfl rfl (any_of HT_.out (by kernel_rfl)) (fun _ _ _ h => h) (Or.inl ⟨by rfl, ?_⟩) ?_ ?_
                  rotate_left
                  · intro w'
                    go_simp
                    with_reducible rfl
                  rotate_left
                  · simp only [Act.put, List.setIfInBounds_toArray, List.set_cons_zero, List.set_cons_succ, i64_w, i32_w]
                    rfl
                  refine take_ (i := 3) (N := some 19) (v := ?_) (a' := ?_) #[true, true, true, true, true, true, true, false, false, false] rfl rfl (take_ofW HT_.out HW_.out (by kernel_rfl)) (fun _ _ _ h => h) (Or.inl ⟨by rfl, ?_⟩) hHeld ?_ ?_
                  rotate_left
                  · rintro w' ⟨s0, s1, s2, s3, s4, s5, s6, s7, s8, s9, s10, s11, s12, s13⟩
                    go_simp
                    with_reducible rfl
                  rotate_left
                  · simp only [Act.put, List.setIfInBounds_toArray, List.set_cons_zero, List.set_cons_succ, i64_w, i32_w]
                    rfl
                  refine take_ (i := 7) (N := some 23) (v := ?_) (a' := ?_) #[true, true, true, true, true, true, true, true, false, false] rfl rfl (take_ofW HT_.out HW_.out (by kernel_rfl)) (fun _ _ _ h => h) (Or.inl ⟨by rfl, ?_⟩) hHeld ?_ ?_
                  rotate_left
                  · rintro w' ⟨s0, s1, s2, s3, s4, s5, s6, s7, s8, s9, s10, s11, s12, s13⟩
                    go_simp
                    with_reducible rfl
                  rotate_left
                  · simp only [Act.put, List.setIfInBounds_toArray, List.set_cons_zero, List.set_cons_succ, i64_w, i32_w]
                    rfl
                  refine one_ (i := 8) (N := some 24) #[true, true, true, true, true, true, true, true, true, false] rfl rfl (one_of HT_.out (by kernel_rfl)) (by decide) (fun K hK => ?_)
                  refine goes_ Try.func32 (by kernel_rfl) rfl #[.agg #[.int .i64 ((rd_T26 l0 x13_1).f0), .bool ((rd_T26 l0 x13_1).f1), .int .i64 ((rd_T26 l0 x13_1).f2), .int .u64 ((rd_T26 l0 x13_1).f3), .string ((rd_T26 l0 x13_1).f4), .slice A233_5 ((rd_T26 l0 x13_1).f5).length c233_5, .slice A233_6 ((rd_T26 l0 x13_1).f6).length c233_6], .agg #[.int .i64 ((rd_T26 l1 x13_1).f0), .bool ((rd_T26 l1 x13_1).f1), .int .i64 ((rd_T26 l1 x13_1).f2), .int .u64 ((rd_T26 l1 x13_1).f3), .string ((rd_T26 l1 x13_1).f4), .slice A234_5 ((rd_T26 l1 x13_1).f5).length c234_5, .slice A234_6 ((rd_T26 l1 x13_1).f6).length c234_6]] (by rfl) rfl rfl (by (try simp only [List.map_toArray, List.map_cons, List.map_nil]); first | done | rfl | (simp only [List.length_drop, List.length_take]; rfl)) ?_
                  with_reducible refine (laws_same.calls k1 ((rd_T26 l0 x13_1).f0) ((rd_T26 l0 x13_1).f1) ((rd_T26 l0 x13_1).f2) ((rd_T26 l0 x13_1).f3) ((rd_T26 l0 x13_1).f4) _ _ ((rd_T26 l0 x13_1).f5) _ _ ((rd_T26 l0 x13_1).f6) ((rd_T26 l1 x13_1).f0) ((rd_T26 l1 x13_1).f1) ((rd_T26 l1 x13_1).f2) ((rd_T26 l1 x13_1).f3) ((rd_T26 l1 x13_1).f4) _ _ ((rd_T26 l1 x13_1).f5) _ _ ((rd_T26 l1 x13_1).f6) false _ ?side1 ?side2 ?side3 ?side4 ?side5 ?side6 ?side7 ?side8 A8.out).mono ?_
                  (case side1 => repeat (first | exact (Kd.C_below HR233_5.out HB.out) | (with_reducible refine Kd.C_alloc ?_ _) | (with_reducible refine Kd.C_drewN ?_ _) | (with_reducible refine Kd.C_drew ?_)))
                  (case side2 => exact HC233_5.out)
                  (case side3 => repeat (first | exact (Kd.C_below HR233_6.out HB.out) | (with_reducible refine Kd.C_alloc ?_ _) | (with_reducible refine Kd.C_drewN ?_ _) | (with_reducible refine Kd.C_drew ?_)))
                  (case side4 => exact HC233_6.out)
                  (case side5 => repeat (first | exact (Kd.C_below HR234_5.out HB.out) | (with_reducible refine Kd.C_alloc ?_ _) | (with_reducible refine Kd.C_drewN ?_ _) | (with_reducible refine Kd.C_drew ?_)))
                  (case side6 => exact HC234_5.out)
                  (case side7 => repeat (first | exact (Kd.C_below HR234_6.out HB.out) | (with_reducible refine Kd.C_alloc ?_ _) | (with_reducible refine Kd.C_drewN ?_ _) | (with_reducible refine Kd.C_drew ?_)))
                  (case side8 => exact HC234_6.out)
                  rintro e w13 ⟨rfl, hb⟩
                  refine ⟨_, rfl, ?_⟩
                  have n0_ := Aside0.mk (below_step (by repeat (first | (with_reducible first | exact HB.out | apply below_alloc | apply pw_below_drewN | apply below_drew1) | exact HB.out)) hb)
                  clear HB
                  have HB := n0_
                  clear n0_
                  (try clear hb)
                  (try clear hb2)
                  (try clear hk)
                  (try clear hi)
                  refine hK.out _ _ ⟨((HB.out.cell (World.block_lt_of_cell? w _ hw233_0)).trans hw233_0), ((HB.out.cell (World.block_lt_of_cell? w _ hw233_1)).trans hw233_1), ((HB.out.cell (World.block_lt_of_cell? w _ hw233_2)).trans hw233_2), ((HB.out.cell (World.block_lt_of_cell? w _ hw233_3)).trans hw233_3), ((HB.out.cell (World.block_lt_of_cell? w _ hw233_4)).trans hw233_4), ((HB.out.cell (World.block_lt_of_cell? w _ hw233_5)).trans hw233_5), ((HB.out.cell (World.block_lt_of_cell? w _ hw233_6)).trans hw233_6), ((HB.out.cell (World.block_lt_of_cell? w _ hw234_0)).trans hw234_0), ((HB.out.cell (World.block_lt_of_cell? w _ hw234_1)).trans hw234_1), ((HB.out.cell (World.block_lt_of_cell? w _ hw234_2)).trans hw234_2), ((HB.out.cell (World.block_lt_of_cell? w _ hw234_3)).trans hw234_3), ((HB.out.cell (World.block_lt_of_cell? w _ hw234_4)).trans hw234_4), ((HB.out.cell (World.block_lt_of_cell? w _ hw234_5)).trans hw234_5), ((HB.out.cell (World.block_lt_of_cell? w _ hw234_6)).trans hw234_6)⟩ (fun hHeld => ?_)
                  clear hK K
                  refine norm_ (a' := ?_) ?_ ?_
                  rotate_left
                  · show Act.put _ (some 24) _ = _
                    simp only [Act.put, List.setIfInBounds_toArray, List.set_cons_zero, List.set_cons_succ, i64_w, i32_w]
                    rfl
                  refine pure_ (i := 9) (N := some 25) (v := ?_) (a' := ?_) #[true, true, true, true, true, true, true, true, true, true] rfl rfl (any_of HT_.out (by kernel_rfl)) (fun _ _ _ h => h) (Or.inl ⟨by rfl, ?_⟩) ?_ ?_
                  rotate_left
                  · intro w'
                    go_simp
                    with_reducible rfl
                  rotate_left
                  · simp only [Act.put, List.setIfInBounds_toArray, List.set_cons_zero, List.set_cons_succ, i64_w, i32_w]
                    rfl
                  refine done_ (done_of HT_.out (by kernel_rfl)) ?_
                  try go_wp2
                  go_ret
                  exact ⟨by first | rfl | (simp [errW_none, errW_some] <;> rfl) | (simp [*, errW_none, errW_some] <;> rfl), by repeat (first | (with_reducible first | exact HB.out | apply below_alloc | apply pw_below_drewN | apply below_drew1) | exact HB.out)⟩
              · rw [if_neg c7] at H
                exact absurd H (by simp)
            · rw [if_neg c6] at H
              exact absurd H (by simp)
          · rw [if_neg c5] at H
            exact absurd H (by simp)
        · rw [if_neg c4] at H
          have c4b0 : decide (x13_1 < (l0.length : Int)) = false := decide_eq_false c4
          clear c4
          obtain rfl := Option.some.inj H
          go_wp2
          go_ret
          exact ⟨by first | rfl | (simp [errW_none, errW_some] <;> rfl) | (simp [*, errW_none, errW_some] <;> rfl), by repeat (first | (with_reducible first | exact HB.out | apply below_alloc | apply pw_below_drewN | apply below_drew1) | exact HB.out)⟩
  · rw [if_neg c3] at H
    have c3b0 : ((l0.length : Int) == (l1.length : Int)) = false := beq_eq_false_iff_ne.mpr c3
    have c3b1 : ((l0.length : Int) != (l1.length : Int)) = true := bne_iff_ne.mpr c3
    have c3b2 : (l0.length == l1.length) = false := by first | simpa using c3 | (simp at c3 ⊢; omega)
    obtain rfl := Option.some.inj H
    go_enter Try.func36, Try.ntmps36
    go_wp2
    go_ret
    exact ⟨by first | rfl | (simp [errW_none, errW_some] <;> rfl) | (simp [*, errW_none, errW_some] <;> rfl), by repeat (first | (with_reducible first | exact HB.out | apply below_alloc | apply pw_below_drewN | apply below_drew1) | exact HB.out)⟩

-- NOT PRINTED: function 12 (laws_FnPackRow)

end Go.Proofs.Ytjnookhdiolhgaa.PAll
