/- The Lean function of laws_zzFits5 and its contract: the Go function comes to exactly what the Lean function answers (laid by the kit's print program). -/
import Derived.Test.YtkogipaaioibaaaGreatDoorPAllx0
namespace Go.Proofs.YtkogipaaioibaaaGreatDoor.PAll
open Go.RowKit Go.Proofs.YtkogipaaioibaaaGreatDoorW.PrintWords Go.Proofs.YtkogipaaioibaaaGreatDoorW.PrintLast Go.Proofs.YtkogipaaioibaaaGreatDoorW.PrintMore
attribute [local go_sem] max2_int min2_int max_two min_two max_three min_three max_four min_four   -- for this text's walks alone
set_option linter.unusedVariables false
set_option linter.unusedSimpArgs false


/-! ### laws_zzFits5: function 6 -/
def laws_zzFits5.f (a0_0 : Int) (a0_1 : Int) (a0_2 : Int) (a0_3 : ByteArray) (l0_4 : List (S25)) : Option (Bool) := if (a0_3.size : Int) > 2147483647 then (some false) else (if (l0_4.length : Int) > 2147483647 then (some false) else (some true))
set_option maxHeartbeats 8000000 in
set_option maxRecDepth 100000 in
theorem laws_zzFits5.calls (a0_0 : Int) (a0_1 : Int) (a0_2 : Int) (a0_3 : ByteArray) (A0_4 : Option Addr) (c0_4 : Nat) (l0_4 : List (S25)) (r : Bool) (w : World) (hr0_4 : Kd.C k25 w A0_4 l0_4.length l0_4) (hc0_4 : l0_4.length ≤ c0_4) (h : laws_zzFits5.f a0_0 a0_1 a0_2 a0_3 l0_4 = some r) :
    Calls Tryz.prog 6 #[.agg #[.int .i64 a0_0, .int .i64 a0_1, .int .u64 a0_2, .string a0_3, .slice A0_4 l0_4.length c0_4]] w fun e w' => e = .returned (.bool r) ∧ Below w.heap.size w w' := by
  have hu25 := Tryz.underlying25
  have HR0_4 := Aside0.mk hr0_4
  have HC0_4 := Aside0.mk hc0_4
  clear hr0_4 hc0_4
  have HB := Aside0.mk (Below.refl w.heap.size w)
  have H : (if (a0_3.size : Int) > 2147483647 then (some false) else (if (l0_4.length : Int) > 2147483647 then (some false) else (some true))) = some r := h
  clear h
  by_cases c2 : (a0_3.size : Int) > 2147483647
  · rw [if_pos c2] at H
    have c2b0 : decide (2147483647 < (a0_3.size : Int)) = true := decide_eq_true c2
    have c2b1 : decide (2147483647 < a0_3.size) = true := decide_eq_true (by omega)
    clear c2
    obtain rfl := Option.some.inj H
    go_enter Tryz.func6, Tryz.ntmps6
    go_wp2_with (first | ((with_reducible refine gate_dst (N := 1) rfl ?_); refine box_event ?hg (N := 1) ?hd (cs := #[.int .i64 a0_0, .int .i64 a0_1, .int .u64 a0_2, .string a0_3, .slice A0_4 l0_4.length c0_4]) (t := 25) ?hr ?_; (case hd => rfl); (case hg => rfl); (case hr => first | (go_simp; done) | (go_simp; rfl)); intro gb101 hg w3 hbox hb; have n0_ := Aside0.mk (below_step (by repeat (first | (with_reducible first | exact HB.out | apply below_alloc | apply pw_below_drewN | apply below_drew1) | exact HB.out)) hb); have n1_ := Aside0.mk (hbox); have n2_ := Aside0.mk ((by rw [hg]; exact (below_size (by repeat (first | (with_reducible first | exact HB.out | apply below_alloc | apply pw_below_drewN | apply below_drew1) | exact HB.out))) : w.heap.size ≤ gb101)); have n3_ := Aside0.mk ((by rw [hg]; exact (below_size (by repeat (first | (with_reducible first | exact HB.out | apply below_alloc | apply pw_below_drewN | apply below_drew1) | exact HB.out))) : w.heap.size ≤ gb101)); clear HB; have HB := n0_; have BK101 := n1_; have GW101 := n2_; have GE101 := n3_; clear n0_ n1_ n2_ n3_; clear hb hbox hg; have hcz4_0 : w3.cell? ⟨gb101, 0, none⟩ = some (.int .i64 a0_0) := (blk_cell BK101.out 0).trans rfl; have hcz4_1 : w3.cell? ⟨gb101, 1, none⟩ = some (.int .i64 a0_1) := (blk_cell BK101.out 1).trans rfl; have hcz4_2 : w3.cell? ⟨gb101, 2, none⟩ = some (.int .u64 a0_2) := (blk_cell BK101.out 2).trans rfl; have hcz4_3 : w3.cell? ⟨gb101, 3, none⟩ = some (.string a0_3) := (blk_cell BK101.out 3).trans rfl; have hcz4_4 : w3.cell? ⟨gb101, 4, none⟩ = some (.slice A0_4 l0_4.length c0_4) := (blk_cell BK101.out 4).trans rfl; have hfz4_0 := blk_frozen BK101.out 0; have hfz4_1 := blk_frozen BK101.out 1; have hfz4_2 := blk_frozen BK101.out 2; have hfz4_3 := blk_frozen BK101.out 3; have hfz4_4 := blk_frozen BK101.out 4))
    go_ret
    exact ⟨by first | rfl | (simp [errW_none, errW_some] <;> rfl) | (simp [*, errW_none, errW_some] <;> rfl), by repeat (first | (with_reducible first | exact HB.out | apply below_alloc | apply pw_below_drewN | apply below_drew1 | refine below_set ?_ GE101.out) | exact HB.out)⟩
  · rw [if_neg c2] at H
    have c2b0 : decide (2147483647 < (a0_3.size : Int)) = false := decide_eq_false c2
    have c2b1 : decide (2147483647 < a0_3.size) = false := decide_eq_false (by omega)
    clear c2
    by_cases c5 : (l0_4.length : Int) > 2147483647
    · rw [if_pos c5] at H
      have c5b0 : decide (2147483647 < (l0_4.length : Int)) = true := decide_eq_true c5
      have c5b1 : decide (2147483647 < l0_4.length) = true := decide_eq_true (by omega)
      clear c5
      obtain rfl := Option.some.inj H
      go_enter Tryz.func6, Tryz.ntmps6
      go_wp2_with (first | ((with_reducible refine gate_dst (N := 1) rfl ?_); refine box_event ?hg (N := 1) ?hd (cs := #[.int .i64 a0_0, .int .i64 a0_1, .int .u64 a0_2, .string a0_3, .slice A0_4 l0_4.length c0_4]) (t := 25) ?hr ?_; (case hd => rfl); (case hg => rfl); (case hr => first | (go_simp; done) | (go_simp; rfl)); intro gb101 hg w6 hbox hb; have n0_ := Aside0.mk (below_step (by repeat (first | (with_reducible first | exact HB.out | apply below_alloc | apply pw_below_drewN | apply below_drew1) | exact HB.out)) hb); have n1_ := Aside0.mk (hbox); have n2_ := Aside0.mk ((by rw [hg]; exact (below_size (by repeat (first | (with_reducible first | exact HB.out | apply below_alloc | apply pw_below_drewN | apply below_drew1) | exact HB.out))) : w.heap.size ≤ gb101)); have n3_ := Aside0.mk ((by rw [hg]; exact (below_size (by repeat (first | (with_reducible first | exact HB.out | apply below_alloc | apply pw_below_drewN | apply below_drew1) | exact HB.out))) : w.heap.size ≤ gb101)); clear HB; have HB := n0_; have BK101 := n1_; have GW101 := n2_; have GE101 := n3_; clear n0_ n1_ n2_ n3_; clear hb hbox hg; have hcz7_0 : w6.cell? ⟨gb101, 0, none⟩ = some (.int .i64 a0_0) := (blk_cell BK101.out 0).trans rfl; have hcz7_1 : w6.cell? ⟨gb101, 1, none⟩ = some (.int .i64 a0_1) := (blk_cell BK101.out 1).trans rfl; have hcz7_2 : w6.cell? ⟨gb101, 2, none⟩ = some (.int .u64 a0_2) := (blk_cell BK101.out 2).trans rfl; have hcz7_3 : w6.cell? ⟨gb101, 3, none⟩ = some (.string a0_3) := (blk_cell BK101.out 3).trans rfl; have hcz7_4 : w6.cell? ⟨gb101, 4, none⟩ = some (.slice A0_4 l0_4.length c0_4) := (blk_cell BK101.out 4).trans rfl; have hfz7_0 := blk_frozen BK101.out 0; have hfz7_1 := blk_frozen BK101.out 1; have hfz7_2 := blk_frozen BK101.out 2; have hfz7_3 := blk_frozen BK101.out 3; have hfz7_4 := blk_frozen BK101.out 4))
      go_ret
      exact ⟨by first | rfl | (simp [errW_none, errW_some] <;> rfl) | (simp [*, errW_none, errW_some] <;> rfl), by repeat (first | (with_reducible first | exact HB.out | apply below_alloc | apply pw_below_drewN | apply below_drew1 | refine below_set ?_ GE101.out) | exact HB.out)⟩
    · rw [if_neg c5] at H
      have c5b0 : decide (2147483647 < (l0_4.length : Int)) = false := decide_eq_false c5
      have c5b1 : decide (2147483647 < l0_4.length) = false := decide_eq_false (by omega)
      clear c5
      obtain rfl := Option.some.inj H
      go_enter Tryz.func6, Tryz.ntmps6
      go_wp2_with (first | ((with_reducible refine gate_dst (N := 1) rfl ?_); refine box_event ?hg (N := 1) ?hd (cs := #[.int .i64 a0_0, .int .i64 a0_1, .int .u64 a0_2, .string a0_3, .slice A0_4 l0_4.length c0_4]) (t := 25) ?hr ?_; (case hd => rfl); (case hg => rfl); (case hr => first | (go_simp; done) | (go_simp; rfl)); intro gb101 hg w8 hbox hb; have n0_ := Aside0.mk (below_step (by repeat (first | (with_reducible first | exact HB.out | apply below_alloc | apply pw_below_drewN | apply below_drew1) | exact HB.out)) hb); have n1_ := Aside0.mk (hbox); have n2_ := Aside0.mk ((by rw [hg]; exact (below_size (by repeat (first | (with_reducible first | exact HB.out | apply below_alloc | apply pw_below_drewN | apply below_drew1) | exact HB.out))) : w.heap.size ≤ gb101)); have n3_ := Aside0.mk ((by rw [hg]; exact (below_size (by repeat (first | (with_reducible first | exact HB.out | apply below_alloc | apply pw_below_drewN | apply below_drew1) | exact HB.out))) : w.heap.size ≤ gb101)); clear HB; have HB := n0_; have BK101 := n1_; have GW101 := n2_; have GE101 := n3_; clear n0_ n1_ n2_ n3_; clear hb hbox hg; have hcz9_0 : w8.cell? ⟨gb101, 0, none⟩ = some (.int .i64 a0_0) := (blk_cell BK101.out 0).trans rfl; have hcz9_1 : w8.cell? ⟨gb101, 1, none⟩ = some (.int .i64 a0_1) := (blk_cell BK101.out 1).trans rfl; have hcz9_2 : w8.cell? ⟨gb101, 2, none⟩ = some (.int .u64 a0_2) := (blk_cell BK101.out 2).trans rfl; have hcz9_3 : w8.cell? ⟨gb101, 3, none⟩ = some (.string a0_3) := (blk_cell BK101.out 3).trans rfl; have hcz9_4 : w8.cell? ⟨gb101, 4, none⟩ = some (.slice A0_4 l0_4.length c0_4) := (blk_cell BK101.out 4).trans rfl; have hfz9_0 := blk_frozen BK101.out 0; have hfz9_1 := blk_frozen BK101.out 1; have hfz9_2 := blk_frozen BK101.out 2; have hfz9_3 := blk_frozen BK101.out 3; have hfz9_4 := blk_frozen BK101.out 4))
      go_ret
      exact ⟨by first | rfl | (simp [errW_none, errW_some] <;> rfl) | (simp [*, errW_none, errW_some] <;> rfl), by repeat (first | (with_reducible first | exact HB.out | apply below_alloc | apply pw_below_drewN | apply below_drew1 | refine below_set ?_ GE101.out) | exact HB.out)⟩

-- NOT PRINTED: function 26 (laws_asked)

-- NOT PRINTED: function 15 (laws_few)

end Go.Proofs.YtkogipaaioibaaaGreatDoor.PAll
