/- The Lean function of source_PutUint32 and its contract: the Go function comes to exactly what the Lean function answers (laid by the kit's print program). -/
import Derived.Test.YtnbhledkdkchlaaDoorPAllx0
namespace Go.Proofs.YtnbhledkdkchlaaDoor.PAll
open Go.RowKit Go.Proofs.YtnbhledkdkchlaaDoorW.PrintWords Go.Proofs.YtnbhledkdkchlaaDoorW.PrintLast Go.Proofs.YtnbhledkdkchlaaDoorW.PrintMore
attribute [local go_sem] max2_int min2_int max_two min_two max_three min_three max_four min_four   -- for this text's walks alone
set_option linter.unusedVariables false
set_option linter.unusedSimpArgs false


/-! ### source_PutUint32: function 34 -/
def source_PutUint32.f (l0 : List Int) (a1 : Int) : Option (List Int) := if 0 < (l0.length : Int) then (if 1 < (l0.length : Int) then (if 2 < (l0.length : Int) then (if 3 < (l0.length : Int) then (some ((((l0.set (0 : Int).toNat ((a1 / 16777216) % 256)).set (1 : Int).toNat ((a1 / 65536) % 256)).set (2 : Int).toNat ((a1 / 256) % 256)).set (3 : Int).toNat ((a1) % 256))) else (none)) else (none)) else (none)) else (none)
set_option maxHeartbeats 8000000 in
set_option maxRecDepth 100000 in
theorem source_PutUint32.calls (P0_ : Nat → Prop) (u9000_ : Value) (l0 : List Int) (a1 : Int) (r : List Int) (w0 w : World) (hB : Below w0.heap.size w0 w) (ho0 : Kd.R (Kd.int .u8) 5 w w0.heap.size P0_ u9000_ l0) (h : source_PutUint32.f l0 a1 = some r) :
    Calls Tryd.prog 34 #[u9000_, .int .u32 a1] w fun e w' => e = .returned (.tuple #[]) ∧ Kd.R (Kd.int .u8) 5 w' w0.heap.size (fun k_ => (P0_ k_ ∨ w.heap.size ≤ k_)) u9000_ r ∧ Below w0.heap.size w0 w' ∧ Kept w w' (fun k_ => P0_ k_) := by
  have HO0 := Aside0.mk (show Kd.R (Kd.int .u8) 5 w w0.heap.size (fun k_ => (P0_ k_ ∨ w.heap.size ≤ k_)) u9000_ l0 from Kd.R_mono ho0 (fun k_ hk => (.inl hk)))
  have HK := Aside0.mk (Kept.refl w (fun k_ => P0_ k_))
  have HW0 := Aside0.mk hB.size
  have HB := Aside0.mk hB
  clear hB
  have H : (if 0 < (l0.length : Int) then (if 1 < (l0.length : Int) then (if 2 < (l0.length : Int) then (if 3 < (l0.length : Int) then (some ((((l0.set (0 : Int).toNat ((a1 / 16777216) % 256)).set (1 : Int).toNat ((a1 / 65536) % 256)).set (2 : Int).toNat ((a1 / 256) % 256)).set (3 : Int).toNat ((a1) % 256))) else (none)) else (none)) else (none)) else (none)) = some r := h
  clear h
  by_cases c3 : 0 < (l0.length : Int)
  · rw [if_pos c3] at H
    have c3b0 : decide (0 < (l0.length : Int)) = true := decide_eq_true c3
    have c3b1 : decide (0 < l0.length) = true := decide_eq_true (by omega)
    clear c3
    obtain ⟨y139, hy139⟩ : ∃ y_ : List Int, y_ = (l0.set (0 : Int).toNat ((a1 / 16777216) % 256)) := ⟨_, rfl⟩
    replace H : (if 1 < (l0.length : Int) then (if 2 < (l0.length : Int) then (if 3 < (l0.length : Int) then (some (((y139.set (1 : Int).toNat ((a1 / 65536) % 256)).set (2 : Int).toNat ((a1 / 256) % 256)).set (3 : Int).toNat ((a1) % 256))) else (none)) else (none)) else (none)) = some r := by first | (rw [hy139]; with_reducible exact H) | (have H2_ := (Option.bind_some _ _).symm.trans H; rw [hy139]; with_reducible exact H2_) | (have H2_ := (Option.bind_some _ _).symm.trans H; with_reducible exact H2_) | with_reducible exact H | (rw [hy139]; exact H) | exact H
    have Ny139 := Aside0.mk hy139
    clear hy139
    by_cases c5 : 1 < (l0.length : Int)
    · rw [if_pos c5] at H
      have c5b0 : decide (1 < (l0.length : Int)) = true := decide_eq_true c5
      have c5b1 : decide (1 < l0.length) = true := decide_eq_true (by omega)
      clear c5
      obtain ⟨y140, hy140⟩ : ∃ y_ : List Int, y_ = (y139.set (1 : Int).toNat ((a1 / 65536) % 256)) := ⟨_, rfl⟩
      replace H : (if 2 < (l0.length : Int) then (if 3 < (l0.length : Int) then (some ((y140.set (2 : Int).toNat ((a1 / 256) % 256)).set (3 : Int).toNat ((a1) % 256))) else (none)) else (none)) = some r := by first | (rw [hy140]; with_reducible exact H) | (have H2_ := (Option.bind_some _ _).symm.trans H; rw [hy140]; with_reducible exact H2_) | (have H2_ := (Option.bind_some _ _).symm.trans H; with_reducible exact H2_) | with_reducible exact H | (rw [hy140]; exact H) | exact H
      have Ny140 := Aside0.mk hy140
      clear hy140
      by_cases c7 : 2 < (l0.length : Int)
      · rw [if_pos c7] at H
        have c7b0 : decide (2 < (l0.length : Int)) = true := decide_eq_true c7
        have c7b1 : decide (2 < l0.length) = true := decide_eq_true (by omega)
        clear c7
        obtain ⟨y141, hy141⟩ : ∃ y_ : List Int, y_ = (y140.set (2 : Int).toNat ((a1 / 256) % 256)) := ⟨_, rfl⟩
        replace H : (if 3 < (l0.length : Int) then (some (y141.set (3 : Int).toNat ((a1) % 256))) else (none)) = some r := by first | (rw [hy141]; with_reducible exact H) | (have H2_ := (Option.bind_some _ _).symm.trans H; rw [hy141]; with_reducible exact H2_) | (have H2_ := (Option.bind_some _ _).symm.trans H; with_reducible exact H2_) | with_reducible exact H | (rw [hy141]; exact H) | exact H
        have Ny141 := Aside0.mk hy141
        clear hy141
        by_cases c9 : 3 < (l0.length : Int)
        · rw [if_pos c9] at H
          have c9b0 : decide (3 < (l0.length : Int)) = true := decide_eq_true c9
          have c9b1 : decide (3 < l0.length) = true := decide_eq_true (by omega)
          clear c9
          obtain ⟨y142, hy142⟩ : ∃ y_ : List Int, y_ = (y141.set (3 : Int).toNat ((a1) % 256)) := ⟨_, rfl⟩
          replace H : (some y142) = some r := by first | (rw [hy142]; with_reducible exact H) | (have H2_ := (Option.bind_some _ _).symm.trans H; rw [hy142]; with_reducible exact H2_) | (have H2_ := (Option.bind_some _ _).symm.trans H; with_reducible exact H2_) | with_reducible exact H | (rw [hy142]; exact H) | exact H
          have Ny142 := Aside0.mk hy142
          clear hy142
          obtain rfl := Option.some.inj H
          have p4 : 0 ≤ (0 : Int) := (by omega)
          have q4 : (0 : Int) < ((l0.length : Int) : Int) := of_decide_eq_true (by first | (with_reducible assumption) | assumption)
          have qi4 : (0 < l0.length) = True := eq_true (by omega)
          obtain ⟨go4, co4, eo4, gb4, gl4, cl4, HG4⟩ := Kd.R_form HO0.out (by omega)
          (first | cases eo4 | (injection eo4 with ea_ en_ ec_; (first | subst ea_ | (injection ea_ with ea_; subst ea_)); subst ec_; clear en_))
          have GB4 := Aside0.mk gb4
          have GG4 := Aside0.mk HG4
          clear gb4 gl4 HG4
          have HMgo4 := Aside0.mk (show (P0_ go4 ∨ w.heap.size ≤ go4) from (HO0.out.1 _ rfl))
          obtain ⟨hx4_0, hf4_0⟩ := Kd.R_celln 0 HO0.out (0 : Int) p4 q4
          (try rw [show ((0 : Int)).toNat = 0 from rfl] at hx4_0)
          (try simp only [Nat.reduceMul, Nat.zero_mul, Nat.zero_add, Nat.reduceAdd] at hx4_0)
          (try rw [show ((0 : Int)).toNat = 0 from rfl] at hf4_0)
          (try simp only [Nat.reduceMul, Nat.zero_mul, Nat.zero_add, Nat.reduceAdd] at hf4_0)
          replace p4 := eq_true p4
          replace q4 := eq_true q4
          have HP11 := Kd.R_putg HO0.out (0 : Int) ((a1 / 16777216) % 256)
          go_enter Tryd.func34, Tryd.ntmps34
          go_wp2_with (first | ((with_reducible refine gate_store (t := 5) (p := 19) rfl ?_); refine store_event (t := 5) (p := 19) (v := ?vo_w12) (w1 := (w.setCell ⟨go4, (0 : Int).toNat, none⟩ (.int .u8 ((a1 / 16777216) % 256)))) ?hg ?ho ?hn ?hr ?_; (case ho => rfl); (case hg => rfl); (case hn => rfl); (case hr => first | (go_simp; done) | (go_simp; rfl)); intro w12 hw; have hg : w.grownBy w12 (some go4) := (by rw [hw]; exact HP11.2); have hp_ : Kd.R (Kd.int .u8) 5 w12 w0.heap.size (fun k_ => (P0_ k_ ∨ w.heap.size ≤ k_)) (.slice (some ⟨go4, 0, none⟩) l0.length co4) y139 := (by rw [hw, Ny139.out]; exact HP11.1); clear HP11; have n0_ := Aside0.mk (hp_); have n1_ := Aside0.mk ((by rw [hw]; exact below_set (HB.out) GB4.out : Below w0.heap.size w0 w12)); have n2_ := Aside0.mk (Kept.of_grown (S := (fun k_ => P0_ k_)) hg (by repeat (first | (with_reducible first | exact HK.out | apply Kept.alloc | apply Kept.drewN | apply Kept.drew) | exact HK.out)) (fun k_ e_ => (HO0.out.1 k_ e_))); clear HO0; clear HB; clear HK; have HO0 := n0_; have HB := n1_; have HK := n2_; clear n0_ n1_ n2_; clear hg hw hp_; have p6 : 0 ≤ (1 : Int) := (by omega); have q6 : (1 : Int) < ((l0.length : Int) : Int) := of_decide_eq_true (by first | (with_reducible assumption) | assumption); have qi6 : (1 < l0.length) = True := eq_true (by omega); obtain ⟨hx6_0, hf6_0⟩ := Kd.R_celln 0 HO0.out (1 : Int) p6 q6; (try rw [show ((1 : Int)).toNat = 1 from rfl] at hx6_0); (try simp only [Nat.reduceMul, Nat.zero_mul, Nat.zero_add, Nat.reduceAdd] at hx6_0); (try rw [show ((1 : Int)).toNat = 1 from rfl] at hf6_0); (try simp only [Nat.reduceMul, Nat.zero_mul, Nat.zero_add, Nat.reduceAdd] at hf6_0); replace p6 := eq_true p6; replace q6 := eq_true q6; obtain ⟨hy13_, hz13_⟩ := Kd.R_celln 0 HO0.out (1 : Int) (by omega) (of_decide_eq_true (by first | (with_reducible assumption) | assumption)); (try simp only [Int.reduceToNat, Int.toNat_zero, Int.toNat_ofNat, Nat.reduceMul, Nat.zero_mul, Nat.zero_add] at hy13_ hz13_); (try rw [show ((1 : Int)).toNat = 1 from rfl] at hy13_); (try rw [show ((1 : Int)).toNat = 1 from rfl] at hz13_); have HP13 := Kd.R_putg HO0.out (1 : Int) ((a1 / 65536) % 256)) | ((with_reducible refine gate_store (t := 5) (p := 20) rfl ?_); refine store_event (t := 5) (p := 20) (v := ?vo_w14) (w1 := (w12.setCell ⟨go4, (1 : Int).toNat, none⟩ (.int .u8 ((a1 / 65536) % 256)))) ?hg ?ho ?hn ?hr ?_; (case ho => rfl); (case hg => rfl); (case hn => rfl); (case hr => first | (go_simp; done) | (go_simp; rfl)); intro w14 hw; have hg : w12.grownBy w14 (some go4) := (by rw [hw]; exact HP13.2); have hp_ : Kd.R (Kd.int .u8) 5 w14 w0.heap.size (fun k_ => (P0_ k_ ∨ w.heap.size ≤ k_)) (.slice (some ⟨go4, 0, none⟩) l0.length co4) y140 := (by rw [hw, Ny140.out]; exact HP13.1); clear HP13; have n0_ := Aside0.mk (hp_); have n1_ := Aside0.mk ((by rw [hw]; exact below_set (HB.out) GB4.out : Below w0.heap.size w0 w14)); have n2_ := Aside0.mk (Kept.of_grown (S := (fun k_ => P0_ k_)) hg (by repeat (first | (with_reducible first | exact HK.out | apply Kept.alloc | apply Kept.drewN | apply Kept.drew) | exact HK.out)) (fun k_ e_ => (HO0.out.1 k_ e_))); clear HO0; clear HB; clear HK; have HO0 := n0_; have HB := n1_; have HK := n2_; clear n0_ n1_ n2_; clear hg hw hp_; have p8 : 0 ≤ (2 : Int) := (by omega); have q8 : (2 : Int) < ((l0.length : Int) : Int) := of_decide_eq_true (by first | (with_reducible assumption) | assumption); have qi8 : (2 < l0.length) = True := eq_true (by omega); obtain ⟨hx8_0, hf8_0⟩ := Kd.R_celln 0 HO0.out (2 : Int) p8 q8; (try rw [show ((2 : Int)).toNat = 2 from rfl] at hx8_0); (try simp only [Nat.reduceMul, Nat.zero_mul, Nat.zero_add, Nat.reduceAdd] at hx8_0); (try rw [show ((2 : Int)).toNat = 2 from rfl] at hf8_0); (try simp only [Nat.reduceMul, Nat.zero_mul, Nat.zero_add, Nat.reduceAdd] at hf8_0); replace p8 := eq_true p8; replace q8 := eq_true q8; obtain ⟨hy15_, hz15_⟩ := Kd.R_celln 0 HO0.out (2 : Int) (by omega) (of_decide_eq_true (by first | (with_reducible assumption) | assumption)); (try simp only [Int.reduceToNat, Int.toNat_zero, Int.toNat_ofNat, Nat.reduceMul, Nat.zero_mul, Nat.zero_add] at hy15_ hz15_); (try rw [show ((2 : Int)).toNat = 2 from rfl] at hy15_); (try rw [show ((2 : Int)).toNat = 2 from rfl] at hz15_); have HP15 := Kd.R_putg HO0.out (2 : Int) ((a1 / 256) % 256)) | ((with_reducible refine gate_store (t := 5) (p := 21) rfl ?_); refine store_event (t := 5) (p := 21) (v := ?vo_w16) (w1 := (w14.setCell ⟨go4, (2 : Int).toNat, none⟩ (.int .u8 ((a1 / 256) % 256)))) ?hg ?ho ?hn ?hr ?_; (case ho => rfl); (case hg => rfl); (case hn => rfl); (case hr => first | (go_simp; done) | (go_simp; rfl)); intro w16 hw; have hg : w14.grownBy w16 (some go4) := (by rw [hw]; exact HP15.2); have hp_ : Kd.R (Kd.int .u8) 5 w16 w0.heap.size (fun k_ => (P0_ k_ ∨ w.heap.size ≤ k_)) (.slice (some ⟨go4, 0, none⟩) l0.length co4) y141 := (by rw [hw, Ny141.out]; exact HP15.1); clear HP15; have n0_ := Aside0.mk (hp_); have n1_ := Aside0.mk ((by rw [hw]; exact below_set (HB.out) GB4.out : Below w0.heap.size w0 w16)); have n2_ := Aside0.mk (Kept.of_grown (S := (fun k_ => P0_ k_)) hg (by repeat (first | (with_reducible first | exact HK.out | apply Kept.alloc | apply Kept.drewN | apply Kept.drew) | exact HK.out)) (fun k_ e_ => (HO0.out.1 k_ e_))); clear HO0; clear HB; clear HK; have HO0 := n0_; have HB := n1_; have HK := n2_; clear n0_ n1_ n2_; clear hg hw hp_; have p10 : 0 ≤ (3 : Int) := (by omega); have q10 : (3 : Int) < ((l0.length : Int) : Int) := of_decide_eq_true (by first | (with_reducible assumption) | assumption); have qi10 : (3 < l0.length) = True := eq_true (by omega); obtain ⟨hx10_0, hf10_0⟩ := Kd.R_celln 0 HO0.out (3 : Int) p10 q10; (try rw [show ((3 : Int)).toNat = 3 from rfl] at hx10_0); (try simp only [Nat.reduceMul, Nat.zero_mul, Nat.zero_add, Nat.reduceAdd] at hx10_0); (try rw [show ((3 : Int)).toNat = 3 from rfl] at hf10_0); (try simp only [Nat.reduceMul, Nat.zero_mul, Nat.zero_add, Nat.reduceAdd] at hf10_0); replace p10 := eq_true p10; replace q10 := eq_true q10; obtain ⟨hy17_, hz17_⟩ := Kd.R_celln 0 HO0.out (3 : Int) (by omega) (of_decide_eq_true (by first | (with_reducible assumption) | assumption)); (try simp only [Int.reduceToNat, Int.toNat_zero, Int.toNat_ofNat, Nat.reduceMul, Nat.zero_mul, Nat.zero_add] at hy17_ hz17_); (try rw [show ((3 : Int)).toNat = 3 from rfl] at hy17_); (try rw [show ((3 : Int)).toNat = 3 from rfl] at hz17_); have HP17 := Kd.R_putg HO0.out (3 : Int) ((a1) % 256)) | ((with_reducible refine gate_store (t := 5) (p := 22) rfl ?_); refine store_event (t := 5) (p := 22) (v := ?vo_w18) (w1 := (w16.setCell ⟨go4, (3 : Int).toNat, none⟩ (.int .u8 ((a1) % 256)))) ?hg ?ho ?hn ?hr ?_; (case ho => rfl); (case hg => rfl); (case hn => rfl); (case hr => first | (go_simp; done) | (go_simp; rfl)); intro w18 hw; have hg : w16.grownBy w18 (some go4) := (by rw [hw]; exact HP17.2); have hp_ : Kd.R (Kd.int .u8) 5 w18 w0.heap.size (fun k_ => (P0_ k_ ∨ w.heap.size ≤ k_)) (.slice (some ⟨go4, 0, none⟩) l0.length co4) y142 := (by rw [hw, Ny142.out]; exact HP17.1); clear HP17; have n0_ := Aside0.mk (hp_); have n1_ := Aside0.mk ((by rw [hw]; exact below_set (HB.out) GB4.out : Below w0.heap.size w0 w18)); have n2_ := Aside0.mk (Kept.of_grown (S := (fun k_ => P0_ k_)) hg (by repeat (first | (with_reducible first | exact HK.out | apply Kept.alloc | apply Kept.drewN | apply Kept.drew) | exact HK.out)) (fun k_ e_ => (HO0.out.1 k_ e_))); clear HO0; clear HB; clear HK; have HO0 := n0_; have HB := n1_; have HK := n2_; clear n0_ n1_ n2_; clear hg hw hp_))
          first | go_end0 | ((try simp only [Exit.inBlock, Exit.then]); refine bodyPost_ret (results_none rfl _ _ _) rfl ?_)
          exact ⟨by first | rfl | (simp [errW_none, errW_some] <;> rfl) | (simp [*, errW_none, errW_some] <;> rfl), by (with_reducible repeat (first | apply Kd.R_alloc | apply Kd.R_drewN | apply Kd.R_drew)); exact HO0.out, by repeat (first | (with_reducible first | exact HB.out | apply below_alloc | apply pw_below_drewN | apply below_drew1) | exact HB.out), by repeat (first | (with_reducible first | exact HK.out | apply Kept.alloc | apply Kept.drewN | apply Kept.drew) | exact HK.out)⟩
        · rw [if_neg c9] at H
          exact absurd H (by simp)
      · rw [if_neg c7] at H
        exact absurd H (by simp)
    · rw [if_neg c5] at H
      exact absurd H (by simp)
  · rw [if_neg c3] at H
    exact absurd H (by simp)

-- NOT PRINTED: function 19 (gonsq_MultiPublish)

-- NOT PRINTED: function 20 (gonsq_Subscribe)

-- NOT PRINTED: function 21 (gonsq_Ready)

-- NOT PRINTED: function 22 (gonsq_Finish)

-- NOT PRINTED: function 23 (impl_identity)

-- NOT PRINTED: function 24 (gonsq_Requeue)

-- NOT PRINTED: function 25 (gonsq_Touch)

-- NOT PRINTED: function 26 (gonsq_StartClose)

-- NOT PRINTED: function 27 (gonsq_Nop)

-- NOT PRINTED: function 28 (gonsq_Auth)

-- NOT PRINTED: function 29 (impl_command)

-- NOT PRINTED: function 6 (impl_Made)

end Go.Proofs.YtnbhledkdkchlaaDoor.PAll
