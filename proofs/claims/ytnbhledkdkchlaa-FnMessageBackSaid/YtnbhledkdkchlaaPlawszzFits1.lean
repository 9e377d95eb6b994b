/- The Lean function of laws_zzFits1 and its contract: the Go function comes to exactly what the Lean function answers (laid by the kit's print program). -/
import Derived.Test.YtnbhledkdkchlaaPAllx0
import Derived.Test.YtnbhledkdkchlaaPlawszzFits2
namespace Go.Proofs.Ytnbhledkdkchlaa.PAll
open Go.RowKit Go.Proofs.YtnbhledkdkchlaaW.PrintWords Go.Proofs.YtnbhledkdkchlaaW.PrintLast Go.Proofs.YtnbhledkdkchlaaW.PrintMore
attribute [local go_sem] max2_int min2_int max_two min_two max_three min_three max_four min_four   -- for this text's walks alone
set_option linter.unusedVariables false
set_option linter.unusedSimpArgs false


/-! ### laws_zzFits1: function 25 -/
def laws_zzFits1.f (k : Nat) (a0_0 : ByteArray) (l0_1 : List ByteArray) (a0_2 : ByteArray) (a0_3 : Bool) : Option (Bool) := if (a0_0.size : Int) > 2147483647 then (some false) else ((laws_zzFits2.f k l0_1).bind fun t149 => (if t149 = true then (if (a0_2.size : Int) > 2147483647 then (some false) else (some true)) else (some false)))
theorem laws_zzFits1.mono : ∀ a0 a1 a2 a3 k, LeO (laws_zzFits1.f k a0 a1 a2 a3) (laws_zzFits1.f (k + 1) a0 a1 a2 a3) := by
  intro a0 a1 a2 a3 k
  unfold laws_zzFits1.f
  repeat' first
      | (with_reducible exact laws_zzFits2.mono _ _)
      | (with_reducible exact LeO.refl _)
      | (with_reducible exact LeO.none _)
      | (with_reducible refine LeO.ite ?_ ?_)
      | (with_reducible refine LeO.bind ?_ (fun _ => ?_))
      | exact laws_zzFits2.mono _ _
      | exact LeO.none _
      | refine LeO.ite ?_ ?_
      | refine LeO.bind ?_ (fun _ => ?_)
set_option maxHeartbeats 8000000 in
set_option maxRecDepth 100000 in
theorem laws_zzFits1.calls (k : Nat) (a0_0 : ByteArray) (A0_1 : Option Addr) (c0_1 : Nat) (l0_1 : List ByteArray) (a0_2 : ByteArray) (a0_3 : Bool) (r : Bool) (w : World) (hr0_1 : Kd.C Kd.string w A0_1 l0_1.length l0_1) (hc0_1 : l0_1.length ≤ c0_1) (h : laws_zzFits1.f k a0_0 l0_1 a0_2 a0_3 = some r) :
    Calls Try.prog 25 #[.agg #[.string a0_0, .slice A0_1 l0_1.length c0_1, .string a0_2, .bool a0_3]] w fun e w' => e = .returned (.bool r) ∧ Below w.heap.size w w' := by
  have hu35 := Try.underlying35
  have HR0_1 := Aside0.mk hr0_1
  have HC0_1 := Aside0.mk hc0_1
  clear hr0_1 hc0_1
  have HB := Aside0.mk (Below.refl w.heap.size w)
  have H : (if (a0_0.size : Int) > 2147483647 then (some false) else ((laws_zzFits2.f k l0_1).bind fun t149 => (if t149 = true then (if (a0_2.size : Int) > 2147483647 then (some false) else (some true)) else (some false)))) = some r := h
  clear h
  by_cases c2 : (a0_0.size : Int) > 2147483647
  · rw [if_pos c2] at H
    have c2b0 : decide (2147483647 < (a0_0.size : Int)) = true := decide_eq_true c2
    have c2b1 : decide (2147483647 < a0_0.size) = true := decide_eq_true (by omega)
    clear c2
    obtain rfl := Option.some.inj H
    go_enter Try.func25, Try.ntmps25
    go_wp2_with (first | ((with_reducible refine gate_dst (N := 1) rfl ?_); refine box_event ?hg (N := 1) ?hd (cs := #[.string a0_0, .slice A0_1 l0_1.length c0_1, .string a0_2, .bool a0_3]) (t := 35) ?hr ?_; (case hd => rfl); (case hg => rfl); (case hr => first | (go_simp; done) | (go_simp; rfl)); intro gb148 hg w3 hbox hb; have n0_ := Aside0.mk (below_step (by repeat (first | (with_reducible first | exact HB.out | apply below_alloc | apply pw_below_drewN | apply below_drew1) | exact HB.out)) hb); have n1_ := Aside0.mk (hbox); have n2_ := Aside0.mk ((by rw [hg]; exact (below_size (by repeat (first | (with_reducible first | exact HB.out | apply below_alloc | apply pw_below_drewN | apply below_drew1) | exact HB.out))) : w.heap.size ≤ gb148)); have n3_ := Aside0.mk ((by rw [hg]; exact (below_size (by repeat (first | (with_reducible first | exact HB.out | apply below_alloc | apply pw_below_drewN | apply below_drew1) | exact HB.out))) : w.heap.size ≤ gb148)); clear HB; have HB := n0_; have BK148 := n1_; have GW148 := n2_; have GE148 := n3_; clear n0_ n1_ n2_ n3_; clear hb hbox hg; have hcz4_0 : w3.cell? ⟨gb148, 0, none⟩ = some (.string a0_0) := (blk_cell BK148.out 0).trans rfl; have hcz4_1 : w3.cell? ⟨gb148, 1, none⟩ = some (.slice A0_1 l0_1.length c0_1) := (blk_cell BK148.out 1).trans rfl; have hcz4_2 : w3.cell? ⟨gb148, 2, none⟩ = some (.string a0_2) := (blk_cell BK148.out 2).trans rfl; have hcz4_3 : w3.cell? ⟨gb148, 3, none⟩ = some (.bool a0_3) := (blk_cell BK148.out 3).trans rfl; have hfz4_0 := blk_frozen BK148.out 0; have hfz4_1 := blk_frozen BK148.out 1; have hfz4_2 := blk_frozen BK148.out 2; have hfz4_3 := blk_frozen BK148.out 3))
    go_ret
    exact ⟨by first | rfl | (simp [errW_none, errW_some] <;> rfl) | (simp [*, errW_none, errW_some] <;> rfl), by repeat (first | (with_reducible first | exact HB.out | apply below_alloc | apply pw_below_drewN | apply below_drew1 | refine below_set ?_ GE148.out) | exact HB.out)⟩
  · rw [if_neg c2] at H
    have c2b0 : decide (2147483647 < (a0_0.size : Int)) = false := decide_eq_false c2
    have c2b1 : decide (2147483647 < a0_0.size) = false := decide_eq_false (by omega)
    clear c2
    replace H := Option.bind_eq_some_iff.mp H
    obtain ⟨t149, A50, H⟩ := H
    replace H : (if t149 = true then (if (a0_2.size : Int) > 2147483647 then (some false) else (some true)) else (some false)) = some r := H
    have A5 := Aside0.mk A50
    clear A50
    by_cases c6 : t149 = true
    · subst c6
      have H1 : (if (a0_2.size : Int) > 2147483647 then (some false) else (some true)) = some r := by rw [if_pos rfl] at H; exact H
      clear H
      have H := H1
      clear H1
      by_cases c7 : (a0_2.size : Int) > 2147483647
      · rw [if_pos c7] at H
        have c7b0 : decide (2147483647 < (a0_2.size : Int)) = true := decide_eq_true c7
        have c7b1 : decide (2147483647 < a0_2.size) = true := decide_eq_true (by omega)
        clear c7
        obtain rfl := Option.some.inj H
        go_enter Try.func25, Try.ntmps25
        go_wp2_with (first | ((with_reducible refine gate_dst (N := 1) rfl ?_); refine box_event ?hg (N := 1) ?hd (cs := #[.string a0_0, .slice A0_1 l0_1.length c0_1, .string a0_2, .bool a0_3]) (t := 35) ?hr ?_; (case hd => rfl); (case hg => rfl); (case hr => first | (go_simp; done) | (go_simp; rfl)); intro gb148 hg w8 hbox hb; have n0_ := Aside0.mk (below_step (by repeat (first | (with_reducible first | exact HB.out | apply below_alloc | apply pw_below_drewN | apply below_drew1) | exact HB.out)) hb); have n1_ := Aside0.mk (hbox); have n2_ := Aside0.mk ((by rw [hg]; exact (below_size (by repeat (first | (with_reducible first | exact HB.out | apply below_alloc | apply pw_below_drewN | apply below_drew1) | exact HB.out))) : w.heap.size ≤ gb148)); have n3_ := Aside0.mk ((by rw [hg]; exact (below_size (by repeat (first | (with_reducible first | exact HB.out | apply below_alloc | apply pw_below_drewN | apply below_drew1) | exact HB.out))) : w.heap.size ≤ gb148)); clear HB; have HB := n0_; have BK148 := n1_; have GW148 := n2_; have GE148 := n3_; clear n0_ n1_ n2_ n3_; clear hb hbox hg; have hcz9_0 : w8.cell? ⟨gb148, 0, none⟩ = some (.string a0_0) := (blk_cell BK148.out 0).trans rfl; have hcz9_1 : w8.cell? ⟨gb148, 1, none⟩ = some (.slice A0_1 l0_1.length c0_1) := (blk_cell BK148.out 1).trans rfl; have hcz9_2 : w8.cell? ⟨gb148, 2, none⟩ = some (.string a0_2) := (blk_cell BK148.out 2).trans rfl; have hcz9_3 : w8.cell? ⟨gb148, 3, none⟩ = some (.bool a0_3) := (blk_cell BK148.out 3).trans rfl; have hfz9_0 := blk_frozen BK148.out 0; have hfz9_1 := blk_frozen BK148.out 1; have hfz9_2 := blk_frozen BK148.out 2; have hfz9_3 := blk_frozen BK148.out 3) | ((with_reducible refine gate_callee (f := 33) rfl ?_); refine goesL_ (some 9) rfl rfl Try.func33 (by kernel_rfl) rfl #[.slice A0_1 l0_1.length c0_1] rfl (by (try simp only [List.map_toArray, List.map_cons, List.map_nil]); first | done | rfl | (simp only [List.length_drop, List.length_take]; rfl)) ?_; (with_reducible refine (laws_zzFits2.calls k _ _ l0_1 true _ ?side1 ?side2 A5.out).mono ?_); (case side1 => repeat (first | exact (Kd.C_below HR0_1.out HB.out) | (with_reducible refine Kd.C_alloc ?_ _) | (with_reducible refine Kd.C_drewN ?_ _) | (with_reducible refine Kd.C_drew ?_))); (case side2 => exact HC0_1.out); rintro e w' ⟨rfl, ⟨nd, rfl⟩⟩; refine ⟨_, rfl, ?_⟩))
        go_ret
        exact ⟨by first | rfl | (simp [errW_none, errW_some] <;> rfl) | (simp [*, errW_none, errW_some] <;> rfl), by repeat (first | (with_reducible first | exact HB.out | apply below_alloc | apply pw_below_drewN | apply below_drew1 | refine below_set ?_ GE148.out) | exact HB.out)⟩
      · rw [if_neg c7] at H
        have c7b0 : decide (2147483647 < (a0_2.size : Int)) = false := decide_eq_false c7
        have c7b1 : decide (2147483647 < a0_2.size) = false := decide_eq_false (by omega)
        clear c7
        obtain rfl := Option.some.inj H
        go_enter Try.func25, Try.ntmps25
        go_wp2_with (first | ((with_reducible refine gate_dst (N := 1) rfl ?_); refine box_event ?hg (N := 1) ?hd (cs := #[.string a0_0, .slice A0_1 l0_1.length c0_1, .string a0_2, .bool a0_3]) (t := 35) ?hr ?_; (case hd => rfl); (case hg => rfl); (case hr => first | (go_simp; done) | (go_simp; rfl)); intro gb148 hg w10 hbox hb; have n0_ := Aside0.mk (below_step (by repeat (first | (with_reducible first | exact HB.out | apply below_alloc | apply pw_below_drewN | apply below_drew1) | exact HB.out)) hb); have n1_ := Aside0.mk (hbox); have n2_ := Aside0.mk ((by rw [hg]; exact (below_size (by repeat (first | (with_reducible first | exact HB.out | apply below_alloc | apply pw_below_drewN | apply below_drew1) | exact HB.out))) : w.heap.size ≤ gb148)); have n3_ := Aside0.mk ((by rw [hg]; exact (below_size (by repeat (first | (with_reducible first | exact HB.out | apply below_alloc | apply pw_below_drewN | apply below_drew1) | exact HB.out))) : w.heap.size ≤ gb148)); clear HB; have HB := n0_; have BK148 := n1_; have GW148 := n2_; have GE148 := n3_; clear n0_ n1_ n2_ n3_; clear hb hbox hg; have hcz11_0 : w10.cell? ⟨gb148, 0, none⟩ = some (.string a0_0) := (blk_cell BK148.out 0).trans rfl; have hcz11_1 : w10.cell? ⟨gb148, 1, none⟩ = some (.slice A0_1 l0_1.length c0_1) := (blk_cell BK148.out 1).trans rfl; have hcz11_2 : w10.cell? ⟨gb148, 2, none⟩ = some (.string a0_2) := (blk_cell BK148.out 2).trans rfl; have hcz11_3 : w10.cell? ⟨gb148, 3, none⟩ = some (.bool a0_3) := (blk_cell BK148.out 3).trans rfl; have hfz11_0 := blk_frozen BK148.out 0; have hfz11_1 := blk_frozen BK148.out 1; have hfz11_2 := blk_frozen BK148.out 2; have hfz11_3 := blk_frozen BK148.out 3) | ((with_reducible refine gate_callee (f := 33) rfl ?_); refine goesL_ (some 9) rfl rfl Try.func33 (by kernel_rfl) rfl #[.slice A0_1 l0_1.length c0_1] rfl (by (try simp only [List.map_toArray, List.map_cons, List.map_nil]); first | done | rfl | (simp only [List.length_drop, List.length_take]; rfl)) ?_; (with_reducible refine (laws_zzFits2.calls k _ _ l0_1 true _ ?side1 ?side2 A5.out).mono ?_); (case side1 => repeat (first | exact (Kd.C_below HR0_1.out HB.out) | (with_reducible refine Kd.C_alloc ?_ _) | (with_reducible refine Kd.C_drewN ?_ _) | (with_reducible refine Kd.C_drew ?_))); (case side2 => exact HC0_1.out); rintro e w' ⟨rfl, ⟨nd, rfl⟩⟩; refine ⟨_, rfl, ?_⟩))
        go_ret
        exact ⟨by first | rfl | (simp [errW_none, errW_some] <;> rfl) | (simp [*, errW_none, errW_some] <;> rfl), by repeat (first | (with_reducible first | exact HB.out | apply below_alloc | apply pw_below_drewN | apply below_drew1 | refine below_set ?_ GE148.out) | exact HB.out)⟩
    · replace c6 := Bool.eq_false_iff.mpr c6
      subst c6
      have H1 : (some false) = some r := by rw [if_neg (show ¬ (false = true) by decide)] at H; exact H
      clear H
      have H := H1
      clear H1
      obtain rfl := Option.some.inj H
      go_enter Try.func25, Try.ntmps25
      go_wp2_with (first | ((with_reducible refine gate_dst (N := 1) rfl ?_); refine box_event ?hg (N := 1) ?hd (cs := #[.string a0_0, .slice A0_1 l0_1.length c0_1, .string a0_2, .bool a0_3]) (t := 35) ?hr ?_; (case hd => rfl); (case hg => rfl); (case hr => first | (go_simp; done) | (go_simp; rfl)); intro gb148 hg w12 hbox hb; have n0_ := Aside0.mk (below_step (by repeat (first | (with_reducible first | exact HB.out | apply below_alloc | apply pw_below_drewN | apply below_drew1) | exact HB.out)) hb); have n1_ := Aside0.mk (hbox); have n2_ := Aside0.mk ((by rw [hg]; exact (below_size (by repeat (first | (with_reducible first | exact HB.out | apply below_alloc | apply pw_below_drewN | apply below_drew1) | exact HB.out))) : w.heap.size ≤ gb148)); have n3_ := Aside0.mk ((by rw [hg]; exact (below_size (by repeat (first | (with_reducible first | exact HB.out | apply below_alloc | apply pw_below_drewN | apply below_drew1) | exact HB.out))) : w.heap.size ≤ gb148)); clear HB; have HB := n0_; have BK148 := n1_; have GW148 := n2_; have GE148 := n3_; clear n0_ n1_ n2_ n3_; clear hb hbox hg; have hcz13_0 : w12.cell? ⟨gb148, 0, none⟩ = some (.string a0_0) := (blk_cell BK148.out 0).trans rfl; have hcz13_1 : w12.cell? ⟨gb148, 1, none⟩ = some (.slice A0_1 l0_1.length c0_1) := (blk_cell BK148.out 1).trans rfl; have hcz13_2 : w12.cell? ⟨gb148, 2, none⟩ = some (.string a0_2) := (blk_cell BK148.out 2).trans rfl; have hcz13_3 : w12.cell? ⟨gb148, 3, none⟩ = some (.bool a0_3) := (blk_cell BK148.out 3).trans rfl; have hfz13_0 := blk_frozen BK148.out 0; have hfz13_1 := blk_frozen BK148.out 1; have hfz13_2 := blk_frozen BK148.out 2; have hfz13_3 := blk_frozen BK148.out 3) | ((with_reducible refine gate_callee (f := 33) rfl ?_); refine goesL_ (some 9) rfl rfl Try.func33 (by kernel_rfl) rfl #[.slice A0_1 l0_1.length c0_1] rfl (by (try simp only [List.map_toArray, List.map_cons, List.map_nil]); first | done | rfl | (simp only [List.length_drop, List.length_take]; rfl)) ?_; (with_reducible refine (laws_zzFits2.calls k _ _ l0_1 false _ ?side1 ?side2 A5.out).mono ?_); (case side1 => repeat (first | exact (Kd.C_below HR0_1.out HB.out) | (with_reducible refine Kd.C_alloc ?_ _) | (with_reducible refine Kd.C_drewN ?_ _) | (with_reducible refine Kd.C_drew ?_))); (case side2 => exact HC0_1.out); rintro e w' ⟨rfl, ⟨nd, rfl⟩⟩; refine ⟨_, rfl, ?_⟩))
      go_ret
      exact ⟨by first | rfl | (simp [errW_none, errW_some] <;> rfl) | (simp [*, errW_none, errW_some] <;> rfl), by repeat (first | (with_reducible first | exact HB.out | apply below_alloc | apply pw_below_drewN | apply below_drew1 | refine below_set ?_ GE148.out) | exact HB.out)⟩

-- NOT PRINTED: function 46 (impl_made)

-- NOT PRINTED: function 87 (bytealg_MakeNoZero)

-- NOT PRINTED: function 66 (bytes_Join)

-- NOT PRINTED: function 47 (gonsq_Command_String)

-- NOT PRINTED: function 26 (impl_CommandName)

-- NOT PRINTED: function 7 (laws_FnCommandName)

end Go.Proofs.Ytnbhledkdkchlaa.PAll
