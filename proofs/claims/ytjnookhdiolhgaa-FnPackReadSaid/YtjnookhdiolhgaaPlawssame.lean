/- The Lean function of laws_same and its contract: the Go function comes to exactly what the Lean function answers (laid by the kit's print program). -/
import Derived.Test.YtjnookhdiolhgaaPAllx0
import Derived.Test.YtjnookhdiolhgaaPlawssameTexts
namespace Go.Proofs.Ytjnookhdiolhgaa.PAll
open Go.RowKit Go.Proofs.YtjnookhdiolhgaaW.PrintWords Go.Proofs.YtjnookhdiolhgaaW.PrintLast Go.Proofs.YtjnookhdiolhgaaW.PrintMore
attribute [local go_sem] max2_int min2_int max_two min_two max_three min_three max_four min_four   -- for this text's walks alone
set_option linter.unusedVariables false
set_option linter.unusedSimpArgs false


/-! ### laws_same: function 32 -/
mutual
def laws_same.j0 : Nat → Bool → Int → Bool → Int → Int → ByteArray → List ByteArray → List (S26) → Int → Bool → Int → Int → ByteArray → List ByteArray → List (S26) → Option (Bool)
 | 0, _, _, _, _, _, _, _, _, _, _, _, _, _, _, _ => none
 | k + 1, x55, x217000, x217001, x217002, x217003, x217004, x217005, x217006, x218000, x218001, x218002, x218003, x218004, x218005, x218006 => if x55 = true then (some false) else (laws_same.l0 k (x217006.length : Int) 0 x217000 x217001 x217002 x217003 x217004 x217005 x217006 x218000 x218001 x218002 x218003 x218004 x218005 x218006)
def laws_same.l0 : Nat → Int → Int → Int → Bool → Int → Int → ByteArray → List ByteArray → List (S26) → Int → Bool → Int → Int → ByteArray → List ByteArray → List (S26) → Option (Bool)
 | 0, _, _, _, _, _, _, _, _, _, _, _, _, _, _, _, _ => none
 | k + 1, x58, x59, x217000, x217001, x217002, x217003, x217004, x217005, x217006, x218000, x218001, x218002, x218003, x218004, x218005, x218006 => if x59 < x58 then (if 0 ≤ x59 then (if x59 < (x217006.length : Int) then (if x59 < (x218006.length : Int) then ((laws_same.f k ((rd_T26 x217006 x59).f0) ((rd_T26 x217006 x59).f1) ((rd_T26 x217006 x59).f2) ((rd_T26 x217006 x59).f3) ((rd_T26 x217006 x59).f4) ((rd_T26 x217006 x59).f5) ((rd_T26 x217006 x59).f6) ((rd_T26 x218006 x59).f0) ((rd_T26 x218006 x59).f1) ((rd_T26 x218006 x59).f2) ((rd_T26 x218006 x59).f3) ((rd_T26 x218006 x59).f4) ((rd_T26 x218006 x59).f5) ((rd_T26 x218006 x59).f6)).bind fun t221 => (if t221 = true then (laws_same.l0 k x58 (wrap64 (x59 + 1)) x217000 x217001 x217002 x217003 x217004 x217005 x217006 x218000 x218001 x218002 x218003 x218004 x218005 x218006) else (some false))) else (none)) else (none)) else (none)) else (some true)
def laws_same.f : Nat → Int → Bool → Int → Int → ByteArray → List ByteArray → List (S26) → Int → Bool → Int → Int → ByteArray → List ByteArray → List (S26) → Option (Bool)
 | 0, _, _, _, _, _, _, _, _, _, _, _, _, _, _ => none
 | k + 1, a0_0, a0_1, a0_2, a0_3, a0_4, l0_5, l0_6, a1_0, a1_1, a1_2, a1_3, a1_4, l1_5, l1_6 => if a0_0 = a1_0 then (if (a0_1 != a1_1) = true then (laws_same.j0 k true a0_0 a0_1 a0_2 a0_3 a0_4 l0_5 l0_6 a1_0 a1_1 a1_2 a1_3 a1_4 l1_5 l1_6) else (if a0_2 = a1_2 then (if a0_3 = a1_3 then (if a0_4.toList = a1_4.toList then ((laws_sameTexts.f k l0_5 l1_5).bind fun t218 => (if t218 = true then (laws_same.j0 k ((l0_6.length : Int) != (l1_6.length : Int)) a0_0 a0_1 a0_2 a0_3 a0_4 l0_5 l0_6 a1_0 a1_1 a1_2 a1_3 a1_4 l1_5 l1_6) else (laws_same.j0 k true a0_0 a0_1 a0_2 a0_3 a0_4 l0_5 l0_6 a1_0 a1_1 a1_2 a1_3 a1_4 l1_5 l1_6))) else (laws_same.j0 k true a0_0 a0_1 a0_2 a0_3 a0_4 l0_5 l0_6 a1_0 a1_1 a1_2 a1_3 a1_4 l1_5 l1_6)) else (laws_same.j0 k true a0_0 a0_1 a0_2 a0_3 a0_4 l0_5 l0_6 a1_0 a1_1 a1_2 a1_3 a1_4 l1_5 l1_6)) else (laws_same.j0 k true a0_0 a0_1 a0_2 a0_3 a0_4 l0_5 l0_6 a1_0 a1_1 a1_2 a1_3 a1_4 l1_5 l1_6))) else (laws_same.j0 k true a0_0 a0_1 a0_2 a0_3 a0_4 l0_5 l0_6 a1_0 a1_1 a1_2 a1_3 a1_4 l1_5 l1_6)
end
theorem laws_same.mono_l : ∀ k, (∀ y0 y1 y2 y3 y4 y5 y6 y7 y8 y9 y10 y11 y12 y13, LeO (laws_same.f k y0 y1 y2 y3 y4 y5 y6 y7 y8 y9 y10 y11 y12 y13) (laws_same.f (k + 1) y0 y1 y2 y3 y4 y5 y6 y7 y8 y9 y10 y11 y12 y13)) ∧ (∀ y0 y1 y2 y3 y4 y5 y6 y7 y8 y9 y10 y11 y12 y13 y14, LeO (laws_same.j0 k y0 y1 y2 y3 y4 y5 y6 y7 y8 y9 y10 y11 y12 y13 y14) (laws_same.j0 (k + 1) y0 y1 y2 y3 y4 y5 y6 y7 y8 y9 y10 y11 y12 y13 y14)) ∧ (∀ y0 y1 y2 y3 y4 y5 y6 y7 y8 y9 y10 y11 y12 y13 y14 y15, LeO (laws_same.l0 k y0 y1 y2 y3 y4 y5 y6 y7 y8 y9 y10 y11 y12 y13 y14 y15) (laws_same.l0 (k + 1) y0 y1 y2 y3 y4 y5 y6 y7 y8 y9 y10 y11 y12 y13 y14 y15))
 | 0 => ⟨fun _ _ _ _ _ _ _ _ _ _ _ _ _ _ r h => by simp [laws_same.f] at h, fun _ _ _ _ _ _ _ _ _ _ _ _ _ _ _ r h => by simp [laws_same.j0] at h, fun _ _ _ _ _ _ _ _ _ _ _ _ _ _ _ _ r h => by simp [laws_same.l0] at h⟩
 | k + 1 => by
  obtain ⟨ih0, ih1, ih2⟩ := laws_same.mono_l k
  refine ⟨?_, ?_, ?_⟩
  ·intro y0 y1 y2 y3 y4 y5 y6 y7 y8 y9 y10 y11 y12 y13
   unfold laws_same.f
   repeat' first
   | (with_reducible exact ih0 _ _ _ _ _ _ _ _ _ _ _ _ _ _)
   | (with_reducible exact ih1 _ _ _ _ _ _ _ _ _ _ _ _ _ _ _)
   | (with_reducible exact ih2 _ _ _ _ _ _ _ _ _ _ _ _ _ _ _ _)
   | (with_reducible exact laws_sameTexts.mono _ _ _)
   | (with_reducible exact LeO.refl _)
   | (with_reducible exact LeO.none _)
   | (with_reducible refine LeO.ite ?_ ?_)
   | (with_reducible refine LeO.bind ?_ (fun _ => ?_))
   | exact ih0 _ _ _ _ _ _ _ _ _ _ _ _ _ _
   | exact ih1 _ _ _ _ _ _ _ _ _ _ _ _ _ _ _
   | exact ih2 _ _ _ _ _ _ _ _ _ _ _ _ _ _ _ _
   | exact laws_sameTexts.mono _ _ _
   | exact LeO.none _
   | refine LeO.ite ?_ ?_
   | refine LeO.bind ?_ (fun _ => ?_)
  ·intro y0 y1 y2 y3 y4 y5 y6 y7 y8 y9 y10 y11 y12 y13 y14
   unfold laws_same.j0
   repeat' first
   | (with_reducible exact ih0 _ _ _ _ _ _ _ _ _ _ _ _ _ _)
   | (with_reducible exact ih1 _ _ _ _ _ _ _ _ _ _ _ _ _ _ _)
   | (with_reducible exact ih2 _ _ _ _ _ _ _ _ _ _ _ _ _ _ _ _)
   | (with_reducible exact laws_sameTexts.mono _ _ _)
   | (with_reducible exact LeO.refl _)
   | (with_reducible exact LeO.none _)
   | (with_reducible refine LeO.ite ?_ ?_)
   | (with_reducible refine LeO.bind ?_ (fun _ => ?_))
   | exact ih0 _ _ _ _ _ _ _ _ _ _ _ _ _ _
   | exact ih1 _ _ _ _ _ _ _ _ _ _ _ _ _ _ _
   | exact ih2 _ _ _ _ _ _ _ _ _ _ _ _ _ _ _ _
   | exact laws_sameTexts.mono _ _ _
   | exact LeO.none _
   | refine LeO.ite ?_ ?_
   | refine LeO.bind ?_ (fun _ => ?_)
  ·intro y0 y1 y2 y3 y4 y5 y6 y7 y8 y9 y10 y11 y12 y13 y14 y15
   unfold laws_same.l0
   repeat' first
   | (with_reducible exact ih0 _ _ _ _ _ _ _ _ _ _ _ _ _ _)
   | (with_reducible exact ih1 _ _ _ _ _ _ _ _ _ _ _ _ _ _ _)
   | (with_reducible exact ih2 _ _ _ _ _ _ _ _ _ _ _ _ _ _ _ _)
   | (with_reducible exact laws_sameTexts.mono _ _ _)
   | (with_reducible exact LeO.refl _)
   | (with_reducible exact LeO.none _)
   | (with_reducible refine LeO.ite ?_ ?_)
   | (with_reducible refine LeO.bind ?_ (fun _ => ?_))
   | exact ih0 _ _ _ _ _ _ _ _ _ _ _ _ _ _
   | exact ih1 _ _ _ _ _ _ _ _ _ _ _ _ _ _ _
   | exact ih2 _ _ _ _ _ _ _ _ _ _ _ _ _ _ _ _
   | exact laws_sameTexts.mono _ _ _
   | exact LeO.none _
   | refine LeO.ite ?_ ?_
   | refine LeO.bind ?_ (fun _ => ?_)
theorem laws_same.mono : ∀ a0 a1 a2 a3 a4 a5 a6 a7 a8 a9 a10 a11 a12 a13 k, LeO (laws_same.f k a0 a1 a2 a3 a4 a5 a6 a7 a8 a9 a10 a11 a12 a13) (laws_same.f (k + 1) a0 a1 a2 a3 a4 a5 a6 a7 a8 a9 a10 a11 a12 a13) := by
 intro a0 a1 a2 a3 a4 a5 a6 a7 a8 a9 a10 a11 a12 a13 k
 obtain ⟨ih0, ih1, ih2⟩ := laws_same.mono_l k
 exact ih0 a0 a1 a2 a3 a4 a5 a6 a7 a8 a9 a10 a11 a12 a13
def laws_same.T6 : Bool × List (List Nat × List Nat) := (true, [([], []), ([0], [0]), ([], []), ([1, 2], [1, 2]), ([3], [3]), ([], []), ([5], [5]), ([], []), ([6, 7], [6, 7]), ([8], [8]), ([4, 9], [4, 9]), ([10], [10])])
def laws_same.B6 : List Nat := [0, 1, 0, 7, 15, 0, 32, 0, 224, 480, 1023, 2047]
theorem laws_same.tab6 : rtab .any (opsOf Try.f32 6) = laws_same.T6 := by kernel_rfl
theorem laws_same.bits6 : waitsOk laws_same.T6.2 laws_same.B6 = true := by kernel_rfl
set_option maxHeartbeats 8000000 in
set_option maxRecDepth 100000 in
theorem laws_same.calls (k : Nat) : ∀ (a0_0 : Int) (a0_1 : Bool) (a0_2 : Int) (a0_3 : Int) (a0_4 : ByteArray) (A0_5 : Option Addr) (c0_5 : Nat) (l0_5 : List ByteArray) (A0_6 : Option Addr) (c0_6 : Nat) (l0_6 : List (S26)) (a1_0 : Int) (a1_1 : Bool) (a1_2 : Int) (a1_3 : Int) (a1_4 : ByteArray) (A1_5 : Option Addr) (c1_5 : Nat) (l1_5 : List ByteArray) (A1_6 : Option Addr) (c1_6 : Nat) (l1_6 : List (S26)) (r : Bool) (w : World) (hr0_5 : Kd.C Kd.string w A0_5 l0_5.length l0_5) (hc0_5 : l0_5.length ≤ c0_5) (hr0_6 : Kd.C k26 w A0_6 l0_6.length l0_6) (hc0_6 : l0_6.length ≤ c0_6) (hr1_5 : Kd.C Kd.string w A1_5 l1_5.length l1_5) (hc1_5 : l1_5.length ≤ c1_5) (hr1_6 : Kd.C k26 w A1_6 l1_6.length l1_6) (hc1_6 : l1_6.length ≤ c1_6) (h : laws_same.f k a0_0 a0_1 a0_2 a0_3 a0_4 l0_5 l0_6 a1_0 a1_1 a1_2 a1_3 a1_4 l1_5 l1_6 = some r),
  Calls Try.prog 32 #[.agg #[.int .i64 a0_0, .bool a0_1, .int .i64 a0_2, .int .u64 a0_3, .string a0_4, .slice A0_5 l0_5.length c0_5, .slice A0_6 l0_6.length c0_6], .agg #[.int .i64 a1_0, .bool a1_1, .int .i64 a1_2, .int .u64 a1_3, .string a1_4, .slice A1_5 l1_5.length c1_5, .slice A1_6 l1_6.length c1_6]] w fun e w' => e = .returned (.bool r) ∧ Below w.heap.size w w' := by
 induction k using Nat.strongRecOn with
 | _ k ih =>
 intro a0_0 a0_1 a0_2 a0_3 a0_4 A0_5 c0_5 l0_5 A0_6 c0_6 l0_6 a1_0 a1_1 a1_2 a1_3 a1_4 A1_5 c1_5 l1_5 A1_6 c1_6 l1_6 r w hr0_5 hc0_5 hr0_6 hc0_6 hr1_5 hc1_5 hr1_6 hc1_6 h
 cases k with
 | zero => exact absurd h (by simp [laws_same.f])
 | succ k =>
 simp only [laws_same.f] at h
 have hu26 := Try.underlying26
 have HR0_5 := Aside0.mk hr0_5
 have HC0_5 := Aside0.mk hc0_5
 clear hr0_5 hc0_5
 have HR0_6 := Aside0.mk hr0_6
 have HC0_6 := Aside0.mk hc0_6
 clear hr0_6 hc0_6
 have HR1_5 := Aside0.mk hr1_5
 have HC1_5 := Aside0.mk hc1_5
 clear hr1_5 hc1_5
 have HR1_6 := Aside0.mk hr1_6
 have HC1_6 := Aside0.mk hc1_6
 clear hr1_6 hc1_6
 have HB := Aside0.mk (Below.refl w.heap.size w)
 have H : (if a0_0 = a1_0 then (if (a0_1 != a1_1) = true then (laws_same.j0 k true a0_0 a0_1 a0_2 a0_3 a0_4 l0_5 l0_6 a1_0 a1_1 a1_2 a1_3 a1_4 l1_5 l1_6) else (if a0_2 = a1_2 then (if a0_3 = a1_3 then (if a0_4.toList = a1_4.toList then ((laws_sameTexts.f k l0_5 l1_5).bind fun t218 => (if t218 = true then (laws_same.j0 k ((l0_6.length : Int) != (l1_6.length : Int)) a0_0 a0_1 a0_2 a0_3 a0_4 l0_5 l0_6 a1_0 a1_1 a1_2 a1_3 a1_4 l1_5 l1_6) else (laws_same.j0 k true a0_0 a0_1 a0_2 a0_3 a0_4 l0_5 l0_6 a1_0 a1_1 a1_2 a1_3 a1_4 l1_5 l1_6))) else (laws_same.j0 k true a0_0 a0_1 a0_2 a0_3 a0_4 l0_5 l0_6 a1_0 a1_1 a1_2 a1_3 a1_4 l1_5 l1_6)) else (laws_same.j0 k true a0_0 a0_1 a0_2 a0_3 a0_4 l0_5 l0_6 a1_0 a1_1 a1_2 a1_3 a1_4 l1_5 l1_6)) else (laws_same.j0 k true a0_0 a0_1 a0_2 a0_3 a0_4 l0_5 l0_6 a1_0 a1_1 a1_2 a1_3 a1_4 l1_5 l1_6))) else (laws_same.j0 k true a0_0 a0_1 a0_2 a0_3 a0_4 l0_5 l0_6 a1_0 a1_1 a1_2 a1_3 a1_4 l1_5 l1_6)) = some r := h
 clear h
 have HC3 := Aside0.mk H
 clear H
 go_enter Try.func32, Try.ntmps32
 go_upto_region 1 with (first | ((with_reducible refine gate_dst (N := 2) rfl ?_); (try (refine gate_guard (by rfl) ?_; dsimp only)); refine box_event ?hg (N := 2) ?hd (cs := #[.int .i64 a0_0, .bool a0_1, .int .i64 a0_2, .int .u64 a0_3, .string a0_4, .slice A0_5 l0_5.length c0_5, .slice A0_6 l0_6.length c0_6]) (t := 26) ?hr ?_; (case hd => rfl); (case hg => rfl); (case hr => first | (go_simp; done) | (go_simp; rfl)); intro gb216 hg w4 hbox hb; have n0_ := Aside0.mk (below_step (by repeat (first | (with_reducible first | exact HB.out | apply below_alloc | apply pw_below_drewN | apply below_drew1) | exact HB.out)) hb); have n1_ := Aside0.mk (hbox); have n2_ := Aside0.mk ((by rw [hg]; exact (below_size (by repeat (first | (with_reducible first | exact HB.out | apply below_alloc | apply pw_below_drewN | apply below_drew1) | exact HB.out))) : w.heap.size ≤ gb216)); have n3_ := Aside0.mk ((by rw [hg]; exact (below_size (by repeat (first | (with_reducible first | exact HB.out | apply below_alloc | apply pw_below_drewN | apply below_drew1) | exact HB.out))) : w.heap.size ≤ gb216)); clear HB; have HB := n0_; have BK216 := n1_; have GW216 := n2_; have GE216 := n3_; clear n0_ n1_ n2_ n3_; clear hb hbox hg) | ((with_reducible refine gate_dst (N := 3) rfl ?_); (try (refine gate_guard (by rfl) ?_; dsimp only)); refine box_event ?hg (N := 3) ?hd (cs := #[.int .i64 a1_0, .bool a1_1, .int .i64 a1_2, .int .u64 a1_3, .string a1_4, .slice A1_5 l1_5.length c1_5, .slice A1_6 l1_6.length c1_6]) (t := 26) ?hr ?_; (case hd => rfl); (case hg => rfl); (case hr => first | (go_simp; done) | (go_simp; rfl)); intro gb217 hg w5 hbox hb; have n0_ := Aside0.mk (blk_below (g := gb216) (o := .cells #[.int .i64 a0_0, .bool a0_1, .int .i64 a0_2, .int .u64 a0_3, .string a0_4, .slice A0_5 l0_5.length c0_5, .slice A0_6 l0_6.length c0_6] 26 (0, 0)) (by (with_reducible repeat (first | refine blk_drewN ?_ _ | refine blk_drew ?_ | refine blk_alloc ?_ _)); exact BK216.out) hb); have n1_ := Aside0.mk (below_step (by repeat (first | (with_reducible first | exact HB.out | apply below_alloc | apply pw_below_drewN | apply below_drew1 | refine below_set ?_ GE216.out) | exact HB.out)) hb); have n2_ := Aside0.mk (hbox); have n3_ := Aside0.mk ((by rw [hg]; exact (below_size (by repeat (first | (with_reducible first | exact HB.out | apply below_alloc | apply pw_below_drewN | apply below_drew1 | refine below_set ?_ GE216.out) | exact HB.out))) : w.heap.size ≤ gb217)); have n4_ := Aside0.mk ((by rw [hg]; exact (below_size (by repeat (first | (with_reducible first | exact HB.out | apply below_alloc | apply pw_below_drewN | apply below_drew1 | refine below_set ?_ GE216.out) | exact HB.out))) : w.heap.size ≤ gb217)); have n5_ := Aside0.mk ((by rw [hg]; exact Nat.ne_of_lt (blk_lt (g := gb216) (o := .cells #[.int .i64 a0_0, .bool a0_1, .int .i64 a0_2, .int .u64 a0_3, .string a0_4, .slice A0_5 l0_5.length c0_5, .slice A0_6 l0_6.length c0_6] 26 (0, 0)) (by (with_reducible repeat (first | refine blk_drewN ?_ _ | refine blk_drew ?_ | refine blk_alloc ?_ _)); exact BK216.out)) : gb216 ≠ gb217)); have n6_ := Aside0.mk ((by rw [hg]; exact Nat.ne_of_gt (blk_lt (g := gb216) (o := .cells #[.int .i64 a0_0, .bool a0_1, .int .i64 a0_2, .int .u64 a0_3, .string a0_4, .slice A0_5 l0_5.length c0_5, .slice A0_6 l0_6.length c0_6] 26 (0, 0)) (by (with_reducible repeat (first | refine blk_drewN ?_ _ | refine blk_drew ?_ | refine blk_alloc ?_ _)); exact BK216.out)) : gb217 ≠ gb216)); clear BK216; clear HB; have BK216 := n0_; have HB := n1_; have BK217 := n2_; have GW217 := n3_; have GE217 := n4_; have NB216_217 := n5_; have NB217_216 := n6_; clear n0_ n1_ n2_ n3_ n4_ n5_ n6_; clear hb hbox hg))
 (try simp only [Act.put, List.setIfInBounds_toArray, List.set_cons_zero, List.set_cons_succ])
 go_cut [55] (fun v55 wc => ∃ (kq : Nat) (x55_2 : Bool), v55 = .bool x55_2 ∧ Aside0 (laws_same.j0 kq x55_2 a0_0 a0_1 a0_2 a0_3 a0_4 l0_5 l0_6 a1_0 a1_1 a1_2 a1_3 a1_4 l1_5 l1_6 = some r) ∧ Aside0 (kq ≤ k) ∧ Aside0 (wc.heap[gb216]? = some (.cells #[.int .i64 a0_0, .bool a0_1, .int .i64 a0_2, .int .u64 a0_3, .string a0_4, (.slice A0_5 l0_5.length c0_5), (.slice A0_6 l0_6.length c0_6)] 26 (0, 0))) ∧ Aside0 (wc.heap[gb217]? = some (.cells #[.int .i64 a1_0, .bool a1_1, .int .i64 a1_2, .int .u64 a1_3, .string a1_4, (.slice A1_5 l1_5.length c1_5), (.slice A1_6 l1_6.length c1_6)] 26 (0, 0))) ∧ Aside0 (Below w.heap.size w wc))
 case first =>
  have H := HC3.out
  clear HC3
  by_cases c6 : a0_0 = a1_0
  ·rw [if_pos c6] at H
   have c6b0 : (a0_0 == a1_0) = true := beq_iff_eq.mpr c6
   have c6b1 : (a0_0 != a1_0) = false := bne_eq_false_iff_eq.mpr c6
   clear c6
   (first | rw [c6b0] | (simp only [i64_w, i32_w]; rw [c6b0]) | skip)
   by_cases c7 : (a0_1 != a1_1) = true
   ·rw [if_pos c7] at H
    have c7b0 : (a0_1 != a1_1) = true := c7
    (try (have c7b1 : decide (a0_1 = a1_1) = false := by simpa using c7))
    (try (have c7b2 : (a0_1 == a1_1) = false := by simpa using c7))
    (try (have c7b3 : ¬ (a0_1 = a1_1) := by simpa using c7))
    clear c7
    have H' := Aside0.mk H
    clear H
    have hnb8 := NB216_217.out
    have hnc8 := NB217_216.out
    have hcz9_0 : w5.cell? ⟨gb216, 0, none⟩ = some (.int .i64 a0_0) := (blk_cell BK216.out 0).trans rfl
    have hcz9_1 : w5.cell? ⟨gb216, 1, none⟩ = some (.bool a0_1) := (blk_cell BK216.out 1).trans rfl
    have hcz9_2 : w5.cell? ⟨gb216, 2, none⟩ = some (.int .i64 a0_2) := (blk_cell BK216.out 2).trans rfl
    have hcz9_3 : w5.cell? ⟨gb216, 3, none⟩ = some (.int .u64 a0_3) := (blk_cell BK216.out 3).trans rfl
    have hcz9_4 : w5.cell? ⟨gb216, 4, none⟩ = some (.string a0_4) := (blk_cell BK216.out 4).trans rfl
    have hcz9_5 : w5.cell? ⟨gb216, 5, none⟩ = some (.slice A0_5 l0_5.length c0_5) := (blk_cell BK216.out 5).trans rfl
    have hcz9_6 : w5.cell? ⟨gb216, 6, none⟩ = some (.slice A0_6 l0_6.length c0_6) := (blk_cell BK216.out 6).trans rfl
    have hfz9_0 := blk_frozen BK216.out 0
    have hfz9_1 := blk_frozen BK216.out 1
    have hfz9_2 := blk_frozen BK216.out 2
    have hfz9_3 := blk_frozen BK216.out 3
    have hfz9_4 := blk_frozen BK216.out 4
    have hfz9_5 := blk_frozen BK216.out 5
    have hfz9_6 := blk_frozen BK216.out 6
    have hcz10_0 : w5.cell? ⟨gb217, 0, none⟩ = some (.int .i64 a1_0) := (blk_cell BK217.out 0).trans rfl
    have hcz10_1 : w5.cell? ⟨gb217, 1, none⟩ = some (.bool a1_1) := (blk_cell BK217.out 1).trans rfl
    have hcz10_2 : w5.cell? ⟨gb217, 2, none⟩ = some (.int .i64 a1_2) := (blk_cell BK217.out 2).trans rfl
    have hcz10_3 : w5.cell? ⟨gb217, 3, none⟩ = some (.int .u64 a1_3) := (blk_cell BK217.out 3).trans rfl
    have hcz10_4 : w5.cell? ⟨gb217, 4, none⟩ = some (.string a1_4) := (blk_cell BK217.out 4).trans rfl
    have hcz10_5 : w5.cell? ⟨gb217, 5, none⟩ = some (.slice A1_5 l1_5.length c1_5) := (blk_cell BK217.out 5).trans rfl
    have hcz10_6 : w5.cell? ⟨gb217, 6, none⟩ = some (.slice A1_6 l1_6.length c1_6) := (blk_cell BK217.out 6).trans rfl
    have hfz10_0 := blk_frozen BK217.out 0
    have hfz10_1 := blk_frozen BK217.out 1
    have hfz10_2 := blk_frozen BK217.out 2
    have hfz10_3 := blk_frozen BK217.out 3
    have hfz10_4 := blk_frozen BK217.out 4
    have hfz10_5 := blk_frozen BK217.out 5
    have hfz10_6 := blk_frozen BK217.out 6
    go_wp2
    go_meet
    case rel => exact ⟨_, (true), (by first | rfl | (simp; done) | (simp [*]; done)), H', ⟨by first | omega | exact Nat.le_refl _⟩, ⟨by (with_reducible repeat (first | refine blk_drewN ?_ _ | refine blk_drew ?_ | refine blk_alloc ?_ _)); exact BK216.out⟩, ⟨by (with_reducible repeat (first | refine blk_drewN ?_ _ | refine blk_drew ?_ | refine blk_alloc ?_ _)); exact BK217.out⟩, ⟨by repeat (first | (with_reducible first | exact HB.out | apply below_alloc | apply pw_below_drewN | apply below_drew1 | refine below_set ?_ GE216.out | refine below_set ?_ GE217.out) | exact HB.out)⟩⟩
   ·rw [if_neg c7] at H
    have c7b0 : (a0_1 != a1_1) = false := by simpa using c7
    (try (have c7b1 : decide (a0_1 = a1_1) = true := by simpa using c7))
    (try (have c7b2 : (a0_1 == a1_1) = true := by simpa using c7))
    clear c7
    by_cases c11 : a0_2 = a1_2
    ·rw [if_pos c11] at H
     have c11b0 : (a0_2 == a1_2) = true := beq_iff_eq.mpr c11
     have c11b1 : (a0_2 != a1_2) = false := bne_eq_false_iff_eq.mpr c11
     clear c11
     by_cases c12 : a0_3 = a1_3
     ·rw [if_pos c12] at H
      have c12b0 : (a0_3 == a1_3) = true := beq_iff_eq.mpr c12
      have c12b1 : (a0_3 != a1_3) = false := bne_eq_false_iff_eq.mpr c12
      clear c12
      by_cases c13 : a0_4.toList = a1_4.toList
      ·rw [if_pos c13] at H
       have c13b0 : (a0_4.toList == a1_4.toList) = true := beq_iff_eq.mpr c13
       have c13b1 : (a0_4.toList != a1_4.toList) = false := bne_eq_false_iff_eq.mpr c13
       clear c13
       replace H := Option.bind_eq_some_iff.mp H
       obtain ⟨t218, A140, H⟩ := H
       replace H : (if t218 = true then (laws_same.j0 k ((l0_6.length : Int) != (l1_6.length : Int)) a0_0 a0_1 a0_2 a0_3 a0_4 l0_5 l0_6 a1_0 a1_1 a1_2 a1_3 a1_4 l1_5 l1_6) else (laws_same.j0 k true a0_0 a0_1 a0_2 a0_3 a0_4 l0_5 l0_6 a1_0 a1_1 a1_2 a1_3 a1_4 l1_5 l1_6)) = some r := H
       have A14 := Aside0.mk A140
       clear A140
       by_cases c15 : t218 = true
       ·subst c15
        have H1 : (laws_same.j0 k ((l0_6.length : Int) != (l1_6.length : Int)) a0_0 a0_1 a0_2 a0_3 a0_4 l0_5 l0_6 a1_0 a1_1 a1_2 a1_3 a1_4 l1_5 l1_6) = some r := by rw [if_pos rfl] at H; exact H
        clear H
        have H := H1
        clear H1
        have H' := Aside0.mk H
        clear H
        have hnb16 := NB216_217.out
        have hnc16 := NB217_216.out
        have hcz17_0 : w5.cell? ⟨gb216, 0, none⟩ = some (.int .i64 a0_0) := (blk_cell BK216.out 0).trans rfl
        have hcz17_1 : w5.cell? ⟨gb216, 1, none⟩ = some (.bool a0_1) := (blk_cell BK216.out 1).trans rfl
        have hcz17_2 : w5.cell? ⟨gb216, 2, none⟩ = some (.int .i64 a0_2) := (blk_cell BK216.out 2).trans rfl
        have hcz17_3 : w5.cell? ⟨gb216, 3, none⟩ = some (.int .u64 a0_3) := (blk_cell BK216.out 3).trans rfl
        have hcz17_4 : w5.cell? ⟨gb216, 4, none⟩ = some (.string a0_4) := (blk_cell BK216.out 4).trans rfl
        have hcz17_5 : w5.cell? ⟨gb216, 5, none⟩ = some (.slice A0_5 l0_5.length c0_5) := (blk_cell BK216.out 5).trans rfl
        have hcz17_6 : w5.cell? ⟨gb216, 6, none⟩ = some (.slice A0_6 l0_6.length c0_6) := (blk_cell BK216.out 6).trans rfl
        have hfz17_0 := blk_frozen BK216.out 0
        have hfz17_1 := blk_frozen BK216.out 1
        have hfz17_2 := blk_frozen BK216.out 2
        have hfz17_3 := blk_frozen BK216.out 3
        have hfz17_4 := blk_frozen BK216.out 4
        have hfz17_5 := blk_frozen BK216.out 5
        have hfz17_6 := blk_frozen BK216.out 6
        have hcz18_0 : w5.cell? ⟨gb217, 0, none⟩ = some (.int .i64 a1_0) := (blk_cell BK217.out 0).trans rfl
        have hcz18_1 : w5.cell? ⟨gb217, 1, none⟩ = some (.bool a1_1) := (blk_cell BK217.out 1).trans rfl
        have hcz18_2 : w5.cell? ⟨gb217, 2, none⟩ = some (.int .i64 a1_2) := (blk_cell BK217.out 2).trans rfl
        have hcz18_3 : w5.cell? ⟨gb217, 3, none⟩ = some (.int .u64 a1_3) := (blk_cell BK217.out 3).trans rfl
        have hcz18_4 : w5.cell? ⟨gb217, 4, none⟩ = some (.string a1_4) := (blk_cell BK217.out 4).trans rfl
        have hcz18_5 : w5.cell? ⟨gb217, 5, none⟩ = some (.slice A1_5 l1_5.length c1_5) := (blk_cell BK217.out 5).trans rfl
        have hcz18_6 : w5.cell? ⟨gb217, 6, none⟩ = some (.slice A1_6 l1_6.length c1_6) := (blk_cell BK217.out 6).trans rfl
        have hfz18_0 := blk_frozen BK217.out 0
        have hfz18_1 := blk_frozen BK217.out 1
        have hfz18_2 := blk_frozen BK217.out 2
        have hfz18_3 := blk_frozen BK217.out 3
        have hfz18_4 := blk_frozen BK217.out 4
        have hfz18_5 := blk_frozen BK217.out 5
        have hfz18_6 := blk_frozen BK217.out 6
        go_wp2_with (first | (go_at_call 74; (with_reducible refine (laws_sameTexts.calls k _ _ l0_5 _ _ l1_5 true _ ?side1 ?side2 ?side3 ?side4 A14.out).mono ?_); (case side1 => repeat (first | exact (Kd.C_below HR0_5.out HB.out) | (with_reducible refine Kd.C_alloc ?_ _) | (with_reducible refine Kd.C_drewN ?_ _) | (with_reducible refine Kd.C_drew ?_))); (case side2 => exact HC0_5.out); (case side3 => repeat (first | exact (Kd.C_below HR1_5.out HB.out) | (with_reducible refine Kd.C_alloc ?_ _) | (with_reducible refine Kd.C_drewN ?_ _) | (with_reducible refine Kd.C_drew ?_))); (case side4 => exact HC1_5.out); rintro e w' ⟨rfl, ⟨nd, rfl⟩⟩))
        go_meet
        case rel => exact ⟨_, (((l0_6.length : Int) != (l1_6.length : Int))), (by first | rfl | (simp; done) | (simp [*]; done)), H', ⟨by first | omega | exact Nat.le_refl _⟩, ⟨by (with_reducible repeat (first | refine blk_drewN ?_ _ | refine blk_drew ?_ | refine blk_alloc ?_ _)); exact BK216.out⟩, ⟨by (with_reducible repeat (first | refine blk_drewN ?_ _ | refine blk_drew ?_ | refine blk_alloc ?_ _)); exact BK217.out⟩, ⟨by repeat (first | (with_reducible first | exact HB.out | apply below_alloc | apply pw_below_drewN | apply below_drew1 | refine below_set ?_ GE216.out | refine below_set ?_ GE217.out) | exact HB.out)⟩⟩
       ·replace c15 := Bool.eq_false_iff.mpr c15
        subst c15
        have H1 : (laws_same.j0 k true a0_0 a0_1 a0_2 a0_3 a0_4 l0_5 l0_6 a1_0 a1_1 a1_2 a1_3 a1_4 l1_5 l1_6) = some r := by rw [if_neg (show ¬ (false = true) by decide)] at H; exact H
        clear H
        have H := H1
        clear H1
        have H' := Aside0.mk H
        clear H
        have hnb19 := NB216_217.out
        have hnc19 := NB217_216.out
        have hcz20_0 : w5.cell? ⟨gb216, 0, none⟩ = some (.int .i64 a0_0) := (blk_cell BK216.out 0).trans rfl
        have hcz20_1 : w5.cell? ⟨gb216, 1, none⟩ = some (.bool a0_1) := (blk_cell BK216.out 1).trans rfl
        have hcz20_2 : w5.cell? ⟨gb216, 2, none⟩ = some (.int .i64 a0_2) := (blk_cell BK216.out 2).trans rfl
        have hcz20_3 : w5.cell? ⟨gb216, 3, none⟩ = some (.int .u64 a0_3) := (blk_cell BK216.out 3).trans rfl
        have hcz20_4 : w5.cell? ⟨gb216, 4, none⟩ = some (.string a0_4) := (blk_cell BK216.out 4).trans rfl
        have hcz20_5 : w5.cell? ⟨gb216, 5, none⟩ = some (.slice A0_5 l0_5.length c0_5) := (blk_cell BK216.out 5).trans rfl
        have hcz20_6 : w5.cell? ⟨gb216, 6, none⟩ = some (.slice A0_6 l0_6.length c0_6) := (blk_cell BK216.out 6).trans rfl
        have hfz20_0 := blk_frozen BK216.out 0
        have hfz20_1 := blk_frozen BK216.out 1
        have hfz20_2 := blk_frozen BK216.out 2
        have hfz20_3 := blk_frozen BK216.out 3
        have hfz20_4 := blk_frozen BK216.out 4
        have hfz20_5 := blk_frozen BK216.out 5
        have hfz20_6 := blk_frozen BK216.out 6
        have hcz21_0 : w5.cell? ⟨gb217, 0, none⟩ = some (.int .i64 a1_0) := (blk_cell BK217.out 0).trans rfl
        have hcz21_1 : w5.cell? ⟨gb217, 1, none⟩ = some (.bool a1_1) := (blk_cell BK217.out 1).trans rfl
        have hcz21_2 : w5.cell? ⟨gb217, 2, none⟩ = some (.int .i64 a1_2) := (blk_cell BK217.out 2).trans rfl
        have hcz21_3 : w5.cell? ⟨gb217, 3, none⟩ = some (.int .u64 a1_3) := (blk_cell BK217.out 3).trans rfl
        have hcz21_4 : w5.cell? ⟨gb217, 4, none⟩ = some (.string a1_4) := (blk_cell BK217.out 4).trans rfl
        have hcz21_5 : w5.cell? ⟨gb217, 5, none⟩ = some (.slice A1_5 l1_5.length c1_5) := (blk_cell BK217.out 5).trans rfl
        have hcz21_6 : w5.cell? ⟨gb217, 6, none⟩ = some (.slice A1_6 l1_6.length c1_6) := (blk_cell BK217.out 6).trans rfl
        have hfz21_0 := blk_frozen BK217.out 0
        have hfz21_1 := blk_frozen BK217.out 1
        have hfz21_2 := blk_frozen BK217.out 2
        have hfz21_3 := blk_frozen BK217.out 3
        have hfz21_4 := blk_frozen BK217.out 4
        have hfz21_5 := blk_frozen BK217.out 5
        have hfz21_6 := blk_frozen BK217.out 6
        go_wp2_with (first | (go_at_call 74; (with_reducible refine (laws_sameTexts.calls k _ _ l0_5 _ _ l1_5 false _ ?side1 ?side2 ?side3 ?side4 A14.out).mono ?_); (case side1 => repeat (first | exact (Kd.C_below HR0_5.out HB.out) | (with_reducible refine Kd.C_alloc ?_ _) | (with_reducible refine Kd.C_drewN ?_ _) | (with_reducible refine Kd.C_drew ?_))); (case side2 => exact HC0_5.out); (case side3 => repeat (first | exact (Kd.C_below HR1_5.out HB.out) | (with_reducible refine Kd.C_alloc ?_ _) | (with_reducible refine Kd.C_drewN ?_ _) | (with_reducible refine Kd.C_drew ?_))); (case side4 => exact HC1_5.out); rintro e w' ⟨rfl, ⟨nd, rfl⟩⟩))
        go_meet
        case rel => exact ⟨_, (true), (by first | rfl | (simp; done) | (simp [*]; done)), H', ⟨by first | omega | exact Nat.le_refl _⟩, ⟨by (with_reducible repeat (first | refine blk_drewN ?_ _ | refine blk_drew ?_ | refine blk_alloc ?_ _)); exact BK216.out⟩, ⟨by (with_reducible repeat (first | refine blk_drewN ?_ _ | refine blk_drew ?_ | refine blk_alloc ?_ _)); exact BK217.out⟩, ⟨by repeat (first | (with_reducible first | exact HB.out | apply below_alloc | apply pw_below_drewN | apply below_drew1 | refine below_set ?_ GE216.out | refine below_set ?_ GE217.out) | exact HB.out)⟩⟩
      ·rw [if_neg c13] at H
       have c13b0 : (a0_4.toList == a1_4.toList) = false := beq_eq_false_iff_ne.mpr c13
       have c13b1 : (a0_4.toList != a1_4.toList) = true := bne_iff_ne.mpr c13
       have H' := Aside0.mk H
       clear H
       have hnb22 := NB216_217.out
       have hnc22 := NB217_216.out
       have hcz23_0 : w5.cell? ⟨gb216, 0, none⟩ = some (.int .i64 a0_0) := (blk_cell BK216.out 0).trans rfl
       have hcz23_1 : w5.cell? ⟨gb216, 1, none⟩ = some (.bool a0_1) := (blk_cell BK216.out 1).trans rfl
       have hcz23_2 : w5.cell? ⟨gb216, 2, none⟩ = some (.int .i64 a0_2) := (blk_cell BK216.out 2).trans rfl
       have hcz23_3 : w5.cell? ⟨gb216, 3, none⟩ = some (.int .u64 a0_3) := (blk_cell BK216.out 3).trans rfl
       have hcz23_4 : w5.cell? ⟨gb216, 4, none⟩ = some (.string a0_4) := (blk_cell BK216.out 4).trans rfl
       have hcz23_5 : w5.cell? ⟨gb216, 5, none⟩ = some (.slice A0_5 l0_5.length c0_5) := (blk_cell BK216.out 5).trans rfl
       have hcz23_6 : w5.cell? ⟨gb216, 6, none⟩ = some (.slice A0_6 l0_6.length c0_6) := (blk_cell BK216.out 6).trans rfl
       have hfz23_0 := blk_frozen BK216.out 0
       have hfz23_1 := blk_frozen BK216.out 1
       have hfz23_2 := blk_frozen BK216.out 2
       have hfz23_3 := blk_frozen BK216.out 3
       have hfz23_4 := blk_frozen BK216.out 4
       have hfz23_5 := blk_frozen BK216.out 5
       have hfz23_6 := blk_frozen BK216.out 6
       have hcz24_0 : w5.cell? ⟨gb217, 0, none⟩ = some (.int .i64 a1_0) := (blk_cell BK217.out 0).trans rfl
       have hcz24_1 : w5.cell? ⟨gb217, 1, none⟩ = some (.bool a1_1) := (blk_cell BK217.out 1).trans rfl
       have hcz24_2 : w5.cell? ⟨gb217, 2, none⟩ = some (.int .i64 a1_2) := (blk_cell BK217.out 2).trans rfl
       have hcz24_3 : w5.cell? ⟨gb217, 3, none⟩ = some (.int .u64 a1_3) := (blk_cell BK217.out 3).trans rfl
       have hcz24_4 : w5.cell? ⟨gb217, 4, none⟩ = some (.string a1_4) := (blk_cell BK217.out 4).trans rfl
       have hcz24_5 : w5.cell? ⟨gb217, 5, none⟩ = some (.slice A1_5 l1_5.length c1_5) := (blk_cell BK217.out 5).trans rfl
       have hcz24_6 : w5.cell? ⟨gb217, 6, none⟩ = some (.slice A1_6 l1_6.length c1_6) := (blk_cell BK217.out 6).trans rfl
       have hfz24_0 := blk_frozen BK217.out 0
       have hfz24_1 := blk_frozen BK217.out 1
       have hfz24_2 := blk_frozen BK217.out 2
       have hfz24_3 := blk_frozen BK217.out 3
       have hfz24_4 := blk_frozen BK217.out 4
       have hfz24_5 := blk_frozen BK217.out 5
       have hfz24_6 := blk_frozen BK217.out 6
       go_wp2
       go_meet
       case rel => exact ⟨_, (true), (by first | rfl | (simp; done) | (simp [*]; done)), H', ⟨by first | omega | exact Nat.le_refl _⟩, ⟨by (with_reducible repeat (first | refine blk_drewN ?_ _ | refine blk_drew ?_ | refine blk_alloc ?_ _)); exact BK216.out⟩, ⟨by (with_reducible repeat (first | refine blk_drewN ?_ _ | refine blk_drew ?_ | refine blk_alloc ?_ _)); exact BK217.out⟩, ⟨by repeat (first | (with_reducible first | exact HB.out | apply below_alloc | apply pw_below_drewN | apply below_drew1 | refine below_set ?_ GE216.out | refine below_set ?_ GE217.out) | exact HB.out)⟩⟩
     ·rw [if_neg c12] at H
      have c12b0 : (a0_3 == a1_3) = false := beq_eq_false_iff_ne.mpr c12
      have c12b1 : (a0_3 != a1_3) = true := bne_iff_ne.mpr c12
      have H' := Aside0.mk H
      clear H
      have hnb25 := NB216_217.out
      have hnc25 := NB217_216.out
      have hcz26_0 : w5.cell? ⟨gb216, 0, none⟩ = some (.int .i64 a0_0) := (blk_cell BK216.out 0).trans rfl
      have hcz26_1 : w5.cell? ⟨gb216, 1, none⟩ = some (.bool a0_1) := (blk_cell BK216.out 1).trans rfl
      have hcz26_2 : w5.cell? ⟨gb216, 2, none⟩ = some (.int .i64 a0_2) := (blk_cell BK216.out 2).trans rfl
      have hcz26_3 : w5.cell? ⟨gb216, 3, none⟩ = some (.int .u64 a0_3) := (blk_cell BK216.out 3).trans rfl
      have hcz26_4 : w5.cell? ⟨gb216, 4, none⟩ = some (.string a0_4) := (blk_cell BK216.out 4).trans rfl
      have hcz26_5 : w5.cell? ⟨gb216, 5, none⟩ = some (.slice A0_5 l0_5.length c0_5) := (blk_cell BK216.out 5).trans rfl
      have hcz26_6 : w5.cell? ⟨gb216, 6, none⟩ = some (.slice A0_6 l0_6.length c0_6) := (blk_cell BK216.out 6).trans rfl
      have hfz26_0 := blk_frozen BK216.out 0
      have hfz26_1 := blk_frozen BK216.out 1
      have hfz26_2 := blk_frozen BK216.out 2
      have hfz26_3 := blk_frozen BK216.out 3
      have hfz26_4 := blk_frozen BK216.out 4
      have hfz26_5 := blk_frozen BK216.out 5
      have hfz26_6 := blk_frozen BK216.out 6
      have hcz27_0 : w5.cell? ⟨gb217, 0, none⟩ = some (.int .i64 a1_0) := (blk_cell BK217.out 0).trans rfl
      have hcz27_1 : w5.cell? ⟨gb217, 1, none⟩ = some (.bool a1_1) := (blk_cell BK217.out 1).trans rfl
      have hcz27_2 : w5.cell? ⟨gb217, 2, none⟩ = some (.int .i64 a1_2) := (blk_cell BK217.out 2).trans rfl
      have hcz27_3 : w5.cell? ⟨gb217, 3, none⟩ = some (.int .u64 a1_3) := (blk_cell BK217.out 3).trans rfl
      have hcz27_4 : w5.cell? ⟨gb217, 4, none⟩ = some (.string a1_4) := (blk_cell BK217.out 4).trans rfl
      have hcz27_5 : w5.cell? ⟨gb217, 5, none⟩ = some (.slice A1_5 l1_5.length c1_5) := (blk_cell BK217.out 5).trans rfl
      have hcz27_6 : w5.cell? ⟨gb217, 6, none⟩ = some (.slice A1_6 l1_6.length c1_6) := (blk_cell BK217.out 6).trans rfl
      have hfz27_0 := blk_frozen BK217.out 0
      have hfz27_1 := blk_frozen BK217.out 1
      have hfz27_2 := blk_frozen BK217.out 2
      have hfz27_3 := blk_frozen BK217.out 3
      have hfz27_4 := blk_frozen BK217.out 4
      have hfz27_5 := blk_frozen BK217.out 5
      have hfz27_6 := blk_frozen BK217.out 6
      go_wp2
      go_meet
      case rel => exact ⟨_, (true), (by first | rfl | (simp; done) | (simp [*]; done)), H', ⟨by first | omega | exact Nat.le_refl _⟩, ⟨by (with_reducible repeat (first | refine blk_drewN ?_ _ | refine blk_drew ?_ | refine blk_alloc ?_ _)); exact BK216.out⟩, ⟨by (with_reducible repeat (first | refine blk_drewN ?_ _ | refine blk_drew ?_ | refine blk_alloc ?_ _)); exact BK217.out⟩, ⟨by repeat (first | (with_reducible first | exact HB.out | apply below_alloc | apply pw_below_drewN | apply below_drew1 | refine below_set ?_ GE216.out | refine below_set ?_ GE217.out) | exact HB.out)⟩⟩
    ·rw [if_neg c11] at H
     have c11b0 : (a0_2 == a1_2) = false := beq_eq_false_iff_ne.mpr c11
     have c11b1 : (a0_2 != a1_2) = true := bne_iff_ne.mpr c11
     have H' := Aside0.mk H
     clear H
     have hnb28 := NB216_217.out
     have hnc28 := NB217_216.out
     have hcz29_0 : w5.cell? ⟨gb216, 0, none⟩ = some (.int .i64 a0_0) := (blk_cell BK216.out 0).trans rfl
     have hcz29_1 : w5.cell? ⟨gb216, 1, none⟩ = some (.bool a0_1) := (blk_cell BK216.out 1).trans rfl
     have hcz29_2 : w5.cell? ⟨gb216, 2, none⟩ = some (.int .i64 a0_2) := (blk_cell BK216.out 2).trans rfl
     have hcz29_3 : w5.cell? ⟨gb216, 3, none⟩ = some (.int .u64 a0_3) := (blk_cell BK216.out 3).trans rfl
     have hcz29_4 : w5.cell? ⟨gb216, 4, none⟩ = some (.string a0_4) := (blk_cell BK216.out 4).trans rfl
     have hcz29_5 : w5.cell? ⟨gb216, 5, none⟩ = some (.slice A0_5 l0_5.length c0_5) := (blk_cell BK216.out 5).trans rfl
     have hcz29_6 : w5.cell? ⟨gb216, 6, none⟩ = some (.slice A0_6 l0_6.length c0_6) := (blk_cell BK216.out 6).trans rfl
     have hfz29_0 := blk_frozen BK216.out 0
     have hfz29_1 := blk_frozen BK216.out 1
     have hfz29_2 := blk_frozen BK216.out 2
     have hfz29_3 := blk_frozen BK216.out 3
     have hfz29_4 := blk_frozen BK216.out 4
     have hfz29_5 := blk_frozen BK216.out 5
     have hfz29_6 := blk_frozen BK216.out 6
     have hcz30_0 : w5.cell? ⟨gb217, 0, none⟩ = some (.int .i64 a1_0) := (blk_cell BK217.out 0).trans rfl
     have hcz30_1 : w5.cell? ⟨gb217, 1, none⟩ = some (.bool a1_1) := (blk_cell BK217.out 1).trans rfl
     have hcz30_2 : w5.cell? ⟨gb217, 2, none⟩ = some (.int .i64 a1_2) := (blk_cell BK217.out 2).trans rfl
     have hcz30_3 : w5.cell? ⟨gb217, 3, none⟩ = some (.int .u64 a1_3) := (blk_cell BK217.out 3).trans rfl
     have hcz30_4 : w5.cell? ⟨gb217, 4, none⟩ = some (.string a1_4) := (blk_cell BK217.out 4).trans rfl
     have hcz30_5 : w5.cell? ⟨gb217, 5, none⟩ = some (.slice A1_5 l1_5.length c1_5) := (blk_cell BK217.out 5).trans rfl
     have hcz30_6 : w5.cell? ⟨gb217, 6, none⟩ = some (.slice A1_6 l1_6.length c1_6) := (blk_cell BK217.out 6).trans rfl
     have hfz30_0 := blk_frozen BK217.out 0
     have hfz30_1 := blk_frozen BK217.out 1
     have hfz30_2 := blk_frozen BK217.out 2
     have hfz30_3 := blk_frozen BK217.out 3
     have hfz30_4 := blk_frozen BK217.out 4
     have hfz30_5 := blk_frozen BK217.out 5
     have hfz30_6 := blk_frozen BK217.out 6
     go_wp2
     go_meet
     case rel => exact ⟨_, (true), (by first | rfl | (simp; done) | (simp [*]; done)), H', ⟨by first | omega | exact Nat.le_refl _⟩, ⟨by (with_reducible repeat (first | refine blk_drewN ?_ _ | refine blk_drew ?_ | refine blk_alloc ?_ _)); exact BK216.out⟩, ⟨by (with_reducible repeat (first | refine blk_drewN ?_ _ | refine blk_drew ?_ | refine blk_alloc ?_ _)); exact BK217.out⟩, ⟨by repeat (first | (with_reducible first | exact HB.out | apply below_alloc | apply pw_below_drewN | apply below_drew1 | refine below_set ?_ GE216.out | refine below_set ?_ GE217.out) | exact HB.out)⟩⟩
  ·rw [if_neg c6] at H
   have c6b0 : (a0_0 == a1_0) = false := beq_eq_false_iff_ne.mpr c6
   have c6b1 : (a0_0 != a1_0) = true := bne_iff_ne.mpr c6
   (first | rw [c6b0] | (simp only [i64_w, i32_w]; rw [c6b0]) | skip)
   have H' := Aside0.mk H
   clear H
   have hnb31 := NB216_217.out
   have hnc31 := NB217_216.out
   have hcz32_0 : w5.cell? ⟨gb216, 0, none⟩ = some (.int .i64 a0_0) := (blk_cell BK216.out 0).trans rfl
   have hcz32_1 : w5.cell? ⟨gb216, 1, none⟩ = some (.bool a0_1) := (blk_cell BK216.out 1).trans rfl
   have hcz32_2 : w5.cell? ⟨gb216, 2, none⟩ = some (.int .i64 a0_2) := (blk_cell BK216.out 2).trans rfl
   have hcz32_3 : w5.cell? ⟨gb216, 3, none⟩ = some (.int .u64 a0_3) := (blk_cell BK216.out 3).trans rfl
   have hcz32_4 : w5.cell? ⟨gb216, 4, none⟩ = some (.string a0_4) := (blk_cell BK216.out 4).trans rfl
   have hcz32_5 : w5.cell? ⟨gb216, 5, none⟩ = some (.slice A0_5 l0_5.length c0_5) := (blk_cell BK216.out 5).trans rfl
   have hcz32_6 : w5.cell? ⟨gb216, 6, none⟩ = some (.slice A0_6 l0_6.length c0_6) := (blk_cell BK216.out 6).trans rfl
   have hfz32_0 := blk_frozen BK216.out 0
   have hfz32_1 := blk_frozen BK216.out 1
   have hfz32_2 := blk_frozen BK216.out 2
   have hfz32_3 := blk_frozen BK216.out 3
   have hfz32_4 := blk_frozen BK216.out 4
   have hfz32_5 := blk_frozen BK216.out 5
   have hfz32_6 := blk_frozen BK216.out 6
   have hcz33_0 : w5.cell? ⟨gb217, 0, none⟩ = some (.int .i64 a1_0) := (blk_cell BK217.out 0).trans rfl
   have hcz33_1 : w5.cell? ⟨gb217, 1, none⟩ = some (.bool a1_1) := (blk_cell BK217.out 1).trans rfl
   have hcz33_2 : w5.cell? ⟨gb217, 2, none⟩ = some (.int .i64 a1_2) := (blk_cell BK217.out 2).trans rfl
   have hcz33_3 : w5.cell? ⟨gb217, 3, none⟩ = some (.int .u64 a1_3) := (blk_cell BK217.out 3).trans rfl
   have hcz33_4 : w5.cell? ⟨gb217, 4, none⟩ = some (.string a1_4) := (blk_cell BK217.out 4).trans rfl
   have hcz33_5 : w5.cell? ⟨gb217, 5, none⟩ = some (.slice A1_5 l1_5.length c1_5) := (blk_cell BK217.out 5).trans rfl
   have hcz33_6 : w5.cell? ⟨gb217, 6, none⟩ = some (.slice A1_6 l1_6.length c1_6) := (blk_cell BK217.out 6).trans rfl
   have hfz33_0 := blk_frozen BK217.out 0
   have hfz33_1 := blk_frozen BK217.out 1
   have hfz33_2 := blk_frozen BK217.out 2
   have hfz33_3 := blk_frozen BK217.out 3
   have hfz33_4 := blk_frozen BK217.out 4
   have hfz33_5 := blk_frozen BK217.out 5
   have hfz33_6 := blk_frozen BK217.out 6
   go_wp2
   go_meet
   case rel => exact ⟨_, (true), (by first | rfl | (simp; done) | (simp [*]; done)), H', ⟨by first | omega | exact Nat.le_refl _⟩, ⟨by (with_reducible repeat (first | refine blk_drewN ?_ _ | refine blk_drew ?_ | refine blk_alloc ?_ _)); exact BK216.out⟩, ⟨by (with_reducible repeat (first | refine blk_drewN ?_ _ | refine blk_drew ?_ | refine blk_alloc ?_ _)); exact BK217.out⟩, ⟨by repeat (first | (with_reducible first | exact HB.out | apply below_alloc | apply pw_below_drewN | apply below_drew1 | refine below_set ?_ GE216.out | refine below_set ?_ GE217.out) | exact HB.out)⟩⟩
 case rest =>
  clear HC3
  try clear c1
  try clear c2
  try clear p2
  try clear c3
  try clear c6
  try clear c6b0
  try clear c6b1
  try clear c7
  try clear c7b0
  try clear c7b1
  try clear c7b2
  try clear c8
  try clear c11
  try clear c11b0
  try clear c11b1
  try clear c12
  try clear c12b0
  try clear c12b1
  try clear c13
  try clear c13b0
  try clear c13b1
  try clear c15
  try clear c16
  try clear c19
  try clear c22
  try clear c25
  try clear c28
  try clear c31
  try clear c32
  try clear hcz10_0
  try clear hcz10_1
  try clear hcz10_2
  try clear hcz10_3
  try clear hcz10_4
  try clear hcz10_5
  try clear hcz10_6
  try clear hcz17_0
  try clear hcz17_1
  try clear hcz17_2
  try clear hcz17_3
  try clear hcz17_4
  try clear hcz17_5
  try clear hcz17_6
  try clear hcz18_0
  try clear hcz18_1
  try clear hcz18_2
  try clear hcz18_3
  try clear hcz18_4
  try clear hcz18_5
  try clear hcz18_6
  try clear hcz20_0
  try clear hcz20_1
  try clear hcz20_2
  try clear hcz20_3
  try clear hcz20_4
  try clear hcz20_5
  try clear hcz20_6
  try clear hcz21_0
  try clear hcz21_1
  try clear hcz21_2
  try clear hcz21_3
  try clear hcz21_4
  try clear hcz21_5
  try clear hcz21_6
  try clear hcz23_0
  try clear hcz23_1
  try clear hcz23_2
  try clear hcz23_3
  try clear hcz23_4
  try clear hcz23_5
  try clear hcz23_6
  try clear hcz24_0
  try clear hcz24_1
  try clear hcz24_2
  try clear hcz24_3
  try clear hcz24_4
  try clear hcz24_5
  try clear hcz24_6
  try clear hcz26_0
  try clear hcz26_1
  try clear hcz26_2
  try clear hcz26_3
  try clear hcz26_4
  try clear hcz26_5
  try clear hcz26_6
  try clear hcz27_0
  try clear hcz27_1
  try clear hcz27_2
  try clear hcz27_3
  try clear hcz27_4
  try clear hcz27_5
  try clear hcz27_6
  try clear hcz29_0
  try clear hcz29_1
  try clear hcz29_2
  try clear hcz29_3
  try clear hcz29_4
  try clear hcz29_5
  try clear hcz29_6
  try clear hcz30_0
  try clear hcz30_1
  try clear hcz30_2
  try clear hcz30_3
  try clear hcz30_4
  try clear hcz30_5
  try clear hcz30_6
  try clear hcz32_0
  try clear hcz32_1
  try clear hcz32_2
  try clear hcz32_3
  try clear hcz32_4
  try clear hcz32_5
  try clear hcz32_6
  try clear hcz33_0
  try clear hcz33_1
  try clear hcz33_2
  try clear hcz33_3
  try clear hcz33_4
  try clear hcz33_5
  try clear hcz33_6
  try clear hcz9_0
  try clear hcz9_1
  try clear hcz9_2
  try clear hcz9_3
  try clear hcz9_4
  try clear hcz9_5
  try clear hcz9_6
  try clear hfz10_0
  try clear hfz10_1
  try clear hfz10_2
  try clear hfz10_3
  try clear hfz10_4
  try clear hfz10_5
  try clear hfz10_6
  try clear hfz17_0
  try clear hfz17_1
  try clear hfz17_2
  try clear hfz17_3
  try clear hfz17_4
  try clear hfz17_5
  try clear hfz17_6
  try clear hfz18_0
  try clear hfz18_1
  try clear hfz18_2
  try clear hfz18_3
  try clear hfz18_4
  try clear hfz18_5
  try clear hfz18_6
  try clear hfz20_0
  try clear hfz20_1
  try clear hfz20_2
  try clear hfz20_3
  try clear hfz20_4
  try clear hfz20_5
  try clear hfz20_6
  try clear hfz21_0
  try clear hfz21_1
  try clear hfz21_2
  try clear hfz21_3
  try clear hfz21_4
  try clear hfz21_5
  try clear hfz21_6
  try clear hfz23_0
  try clear hfz23_1
  try clear hfz23_2
  try clear hfz23_3
  try clear hfz23_4
  try clear hfz23_5
  try clear hfz23_6
  try clear hfz24_0
  try clear hfz24_1
  try clear hfz24_2
  try clear hfz24_3
  try clear hfz24_4
  try clear hfz24_5
  try clear hfz24_6
  try clear hfz26_0
  try clear hfz26_1
  try clear hfz26_2
  try clear hfz26_3
  try clear hfz26_4
  try clear hfz26_5
  try clear hfz26_6
  try clear hfz27_0
  try clear hfz27_1
  try clear hfz27_2
  try clear hfz27_3
  try clear hfz27_4
  try clear hfz27_5
  try clear hfz27_6
  try clear hfz29_0
  try clear hfz29_1
  try clear hfz29_2
  try clear hfz29_3
  try clear hfz29_4
  try clear hfz29_5
  try clear hfz29_6
  try clear hfz30_0
  try clear hfz30_1
  try clear hfz30_2
  try clear hfz30_3
  try clear hfz30_4
  try clear hfz30_5
  try clear hfz30_6
  try clear hfz32_0
  try clear hfz32_1
  try clear hfz32_2
  try clear hfz32_3
  try clear hfz32_4
  try clear hfz32_5
  try clear hfz32_6
  try clear hfz33_0
  try clear hfz33_1
  try clear hfz33_2
  try clear hfz33_3
  try clear hfz33_4
  try clear hfz33_5
  try clear hfz33_6
  try clear hfz9_0
  try clear hfz9_1
  try clear hfz9_2
  try clear hfz9_3
  try clear hfz9_4
  try clear hfz9_5
  try clear hfz9_6
  obtain ⟨kq, x55_2, rfl, HA, HJ2, BK216, BK217, HB⟩ := hcut
  cases kq with
  | zero => exact absurd HA.out (by simp [laws_same.j0])
  | succ kj2 =>
   have H := HA.out
   clear HA
   simp only [laws_same.j0] at H
   by_cases c34 : x55_2 = true
   ·subst c34
    have H1 : (some false) = some r := by rw [if_pos rfl] at H; exact H
    clear H
    have H := H1
    clear H1
    obtain rfl := Option.some.inj H
    go_wp2
    go_ret
    exact ⟨by first | rfl | (simp [errW_none, errW_some] <;> rfl) | (simp [*, errW_none, errW_some] <;> rfl), by repeat (first | (with_reducible first | exact HB.out | apply below_alloc | apply pw_below_drewN | apply below_drew1 | refine below_set ?_ GE216.out | refine below_set ?_ GE217.out) | exact HB.out)⟩
   ·replace c34 := Bool.eq_false_iff.mpr c34
    subst c34
    have H1 : (laws_same.l0 kj2 (l0_6.length : Int) 0 a0_0 a0_1 a0_2 a0_3 a0_4 l0_5 l0_6 a1_0 a1_1 a1_2 a1_3 a1_4 l1_5 l1_6) = some r := by rw [if_neg (show ¬ (false = true) by decide)] at H; exact H
    clear H
    have H := H1
    clear H1
    have H' := Aside0.mk H
    clear H
    have hnb35 := NB216_217.out
    have hnc35 := NB217_216.out
    have hcz36_0 : wc.cell? ⟨gb216, 0, none⟩ = some (.int .i64 a0_0) := (blk_cell BK216.out 0).trans rfl
    have hcz36_1 : wc.cell? ⟨gb216, 1, none⟩ = some (.bool a0_1) := (blk_cell BK216.out 1).trans rfl
    have hcz36_2 : wc.cell? ⟨gb216, 2, none⟩ = some (.int .i64 a0_2) := (blk_cell BK216.out 2).trans rfl
    have hcz36_3 : wc.cell? ⟨gb216, 3, none⟩ = some (.int .u64 a0_3) := (blk_cell BK216.out 3).trans rfl
    have hcz36_4 : wc.cell? ⟨gb216, 4, none⟩ = some (.string a0_4) := (blk_cell BK216.out 4).trans rfl
    have hcz36_5 : wc.cell? ⟨gb216, 5, none⟩ = some (.slice A0_5 l0_5.length c0_5) := (blk_cell BK216.out 5).trans rfl
    have hcz36_6 : wc.cell? ⟨gb216, 6, none⟩ = some (.slice A0_6 l0_6.length c0_6) := (blk_cell BK216.out 6).trans rfl
    have hfz36_0 := blk_frozen BK216.out 0
    have hfz36_1 := blk_frozen BK216.out 1
    have hfz36_2 := blk_frozen BK216.out 2
    have hfz36_3 := blk_frozen BK216.out 3
    have hfz36_4 := blk_frozen BK216.out 4
    have hfz36_5 := blk_frozen BK216.out 5
    have hfz36_6 := blk_frozen BK216.out 6
    go_wp2
    go_loopg [59] kj2 (fun kq v59 w' => ∃ (x59_2 : Int), v59 = .int .i64 x59_2 ∧ Aside0 (laws_same.l0 kq (l0_6.length : Int) x59_2 a0_0 a0_1 a0_2 a0_3 a0_4 l0_5 l0_6 a1_0 a1_1 a1_2 a1_3 a1_4 l1_5 l1_6 = some r) ∧ Aside0 (kq ≤ kj2) ∧ Aside0 (w'.heap[gb216]? = some (.cells #[.int .i64 a0_0, .bool a0_1, .int .i64 a0_2, .int .u64 a0_3, .string a0_4, (.slice A0_5 l0_5.length c0_5), (.slice A0_6 l0_6.length c0_6)] 26 (0, 0))) ∧ Aside0 (w'.heap[gb217]? = some (.cells #[.int .i64 a1_0, .bool a1_1, .int .i64 a1_2, .int .u64 a1_3, .string a1_4, (.slice A1_5 l1_5.length c1_5), (.slice A1_6 l1_6.length c1_6)] 26 (0, 0))) ∧ Aside0 (Below w.heap.size w w'))
    case atStart => exact ⟨(0), (by first | rfl | (simp; done) | (simp [*]; done)), H', ⟨Nat.le_refl _⟩, ⟨by (with_reducible repeat (first | refine blk_drewN ?_ _ | refine blk_drew ?_ | refine blk_alloc ?_ _)); exact BK216.out⟩, ⟨by (with_reducible repeat (first | refine blk_drewN ?_ _ | refine blk_drew ?_ | refine blk_alloc ?_ _)); exact BK217.out⟩, ⟨by repeat (first | (with_reducible first | exact HB.out | apply below_alloc | apply pw_below_drewN | apply below_drew1 | refine below_set ?_ GE216.out | refine below_set ?_ GE217.out) | exact HB.out)⟩⟩
    case round =>
     clear H'
     try clear c1
     try clear c2
     try clear p2
     try clear c3
     try clear c6
     try clear c6b0
     try clear c6b1
     try clear c7
     try clear c7b0
     try clear c7b1
     try clear c7b2
     try clear c8
     try clear c11
     try clear c11b0
     try clear c11b1
     try clear c12
     try clear c12b0
     try clear c12b1
     try clear c13
     try clear c13b0
     try clear c13b1
     try clear c15
     try clear c16
     try clear c19
     try clear c22
     try clear c25
     try clear c28
     try clear c31
     try clear c32
     try clear c34
     try clear c35
     try clear hcz10_0
     try clear hcz10_1
     try clear hcz10_2
     try clear hcz10_3
     try clear hcz10_4
     try clear hcz10_5
     try clear hcz10_6
     try clear hcz17_0
     try clear hcz17_1
     try clear hcz17_2
     try clear hcz17_3
     try clear hcz17_4
     try clear hcz17_5
     try clear hcz17_6
     try clear hcz18_0
     try clear hcz18_1
     try clear hcz18_2
     try clear hcz18_3
     try clear hcz18_4
     try clear hcz18_5
     try clear hcz18_6
     try clear hcz20_0
     try clear hcz20_1
     try clear hcz20_2
     try clear hcz20_3
     try clear hcz20_4
     try clear hcz20_5
     try clear hcz20_6
     try clear hcz21_0
     try clear hcz21_1
     try clear hcz21_2
     try clear hcz21_3
     try clear hcz21_4
     try clear hcz21_5
     try clear hcz21_6
     try clear hcz23_0
     try clear hcz23_1
     try clear hcz23_2
     try clear hcz23_3
     try clear hcz23_4
     try clear hcz23_5
     try clear hcz23_6
     try clear hcz24_0
     try clear hcz24_1
     try clear hcz24_2
     try clear hcz24_3
     try clear hcz24_4
     try clear hcz24_5
     try clear hcz24_6
     try clear hcz26_0
     try clear hcz26_1
     try clear hcz26_2
     try clear hcz26_3
     try clear hcz26_4
     try clear hcz26_5
     try clear hcz26_6
     try clear hcz27_0
     try clear hcz27_1
     try clear hcz27_2
     try clear hcz27_3
     try clear hcz27_4
     try clear hcz27_5
     try clear hcz27_6
     try clear hcz29_0
     try clear hcz29_1
     try clear hcz29_2
     try clear hcz29_3
     try clear hcz29_4
     try clear hcz29_5
     try clear hcz29_6
     try clear hcz30_0
     try clear hcz30_1
     try clear hcz30_2
     try clear hcz30_3
     try clear hcz30_4
     try clear hcz30_5
     try clear hcz30_6
     try clear hcz32_0
     try clear hcz32_1
     try clear hcz32_2
     try clear hcz32_3
     try clear hcz32_4
     try clear hcz32_5
     try clear hcz32_6
     try clear hcz33_0
     try clear hcz33_1
     try clear hcz33_2
     try clear hcz33_3
     try clear hcz33_4
     try clear hcz33_5
     try clear hcz33_6
     try clear hcz36_0
     try clear hcz36_1
     try clear hcz36_2
     try clear hcz36_3
     try clear hcz36_4
     try clear hcz36_5
     try clear hcz36_6
     try clear hcz9_0
     try clear hcz9_1
     try clear hcz9_2
     try clear hcz9_3
     try clear hcz9_4
     try clear hcz9_5
     try clear hcz9_6
     try clear hfz10_0
     try clear hfz10_1
     try clear hfz10_2
     try clear hfz10_3
     try clear hfz10_4
     try clear hfz10_5
     try clear hfz10_6
     try clear hfz17_0
     try clear hfz17_1
     try clear hfz17_2
     try clear hfz17_3
     try clear hfz17_4
     try clear hfz17_5
     try clear hfz17_6
     try clear hfz18_0
     try clear hfz18_1
     try clear hfz18_2
     try clear hfz18_3
     try clear hfz18_4
     try clear hfz18_5
     try clear hfz18_6
     try clear hfz20_0
     try clear hfz20_1
     try clear hfz20_2
     try clear hfz20_3
     try clear hfz20_4
     try clear hfz20_5
     try clear hfz20_6
     try clear hfz21_0
     try clear hfz21_1
     try clear hfz21_2
     try clear hfz21_3
     try clear hfz21_4
     try clear hfz21_5
     try clear hfz21_6
     try clear hfz23_0
     try clear hfz23_1
     try clear hfz23_2
     try clear hfz23_3
     try clear hfz23_4
     try clear hfz23_5
     try clear hfz23_6
     try clear hfz24_0
     try clear hfz24_1
     try clear hfz24_2
     try clear hfz24_3
     try clear hfz24_4
     try clear hfz24_5
     try clear hfz24_6
     try clear hfz26_0
     try clear hfz26_1
     try clear hfz26_2
     try clear hfz26_3
     try clear hfz26_4
     try clear hfz26_5
     try clear hfz26_6
     try clear hfz27_0
     try clear hfz27_1
     try clear hfz27_2
     try clear hfz27_3
     try clear hfz27_4
     try clear hfz27_5
     try clear hfz27_6
     try clear hfz29_0
     try clear hfz29_1
     try clear hfz29_2
     try clear hfz29_3
     try clear hfz29_4
     try clear hfz29_5
     try clear hfz29_6
     try clear hfz30_0
     try clear hfz30_1
     try clear hfz30_2
     try clear hfz30_3
     try clear hfz30_4
     try clear hfz30_5
     try clear hfz30_6
     try clear hfz32_0
     try clear hfz32_1
     try clear hfz32_2
     try clear hfz32_3
     try clear hfz32_4
     try clear hfz32_5
     try clear hfz32_6
     try clear hfz33_0
     try clear hfz33_1
     try clear hfz33_2
     try clear hfz33_3
     try clear hfz33_4
     try clear hfz33_5
     try clear hfz33_6
     try clear hfz36_0
     try clear hfz36_1
     try clear hfz36_2
     try clear hfz36_3
     try clear hfz36_4
     try clear hfz36_5
     try clear hfz36_6
     try clear hfz9_0
     try clear hfz9_1
     try clear hfz9_2
     try clear hfz9_3
     try clear hfz9_4
     try clear hfz9_5
     try clear hfz9_6
     try clear p2
     obtain ⟨x59_2, rfl, HA, HK2, BK216, BK217, HB⟩ := hrel
     cases gk with
     | zero => exact absurd HA.out (by simp [laws_same.l0])
     | succ k2 =>
      have H := HA.out
      clear HA
      simp only [laws_same.l0] at H
      by_cases c37 : x59_2 < (l0_6.length : Int)
      ·rw [if_pos c37] at H
       have c37b0 : decide (x59_2 < (l0_6.length : Int)) = true := decide_eq_true c37
       clear c37
       by_cases c38 : 0 ≤ x59_2
       ·rw [if_pos c38] at H
        have c38b0 : decide (0 ≤ x59_2) = true := decide_eq_true c38
        clear c38
        by_cases c39 : x59_2 < (l0_6.length : Int)
        ·rw [if_pos c39] at H
         have c39b0 : decide (x59_2 < (l0_6.length : Int)) = true := decide_eq_true c39
         clear c39
         by_cases c40 : x59_2 < (l1_6.length : Int)
         ·rw [if_pos c40] at H
          have c40b0 : decide (x59_2 < (l1_6.length : Int)) = true := decide_eq_true c40
          clear c40
          replace H := Option.bind_eq_some_iff.mp H
          obtain ⟨t221, A410, H⟩ := H
          replace H : (if t221 = true then (laws_same.l0 k2 (l0_6.length : Int) (wrap64 (x59_2 + 1)) a0_0 a0_1 a0_2 a0_3 a0_4 l0_5 l0_6 a1_0 a1_1 a1_2 a1_3 a1_4 l1_5 l1_6) else (some false)) = some r := H
          have A41 := Aside0.mk A410
          clear A410
          by_cases c42 : t221 = true
          ·subst c42
           have H1 : (laws_same.l0 k2 (l0_6.length : Int) (wrap64 (x59_2 + 1)) a0_0 a0_1 a0_2 a0_3 a0_4 l0_5 l0_6 a1_0 a1_1 a1_2 a1_3 a1_4 l1_5 l1_6) = some r := by rw [if_pos rfl] at H; exact H
           clear H
           have H := H1
           clear H1
           have H' := Aside0.mk H
           clear H
           try go_wp2
           have n0_ := Aside0.mk (blk_drew BK216.out)
           have n1_ := Aside0.mk (blk_drew BK217.out)
           have n2_ := Aside0.mk (below_drew1 HB.out)
           clear BK216
           clear BK217
           clear HB
           have BK216 := n0_
           have BK217 := n1_
           have HB := n2_
           clear n0_ n1_ n2_
           have p219 : 0 ≤ (x59_2 : Int) := of_decide_eq_true (by first | (with_reducible assumption) | assumption)
           have q219 : x59_2 < (l0_6.length : Int) := of_decide_eq_true (by first | (with_reducible assumption) | assumption)
           obtain ⟨ad219, A219_5, c219_5, A219_6, c219_6, e219, hx219_0, hx219_1, hx219_2, hx219_3, hx219_4, hx219_5, hx219_6, hl219_5, hi219_5, hl219_6, hi219_6⟩ := at_T26 HR0_6.out x59_2 p219 q219
           have hw219_6 := hx219_6
           have hw219_5 := hx219_5
           have hw219_4 := hx219_4
           have hw219_3 := hx219_3
           have hw219_2 := hx219_2
           have hw219_1 := hx219_1
           have hw219_0 := hx219_0
           cases e219
           replace hx219_0 := (HB.out.cell (World.block_lt_of_cell? w _ hx219_0)).trans hx219_0
           replace hx219_1 := (HB.out.cell (World.block_lt_of_cell? w _ hx219_1)).trans hx219_1
           replace hx219_2 := (HB.out.cell (World.block_lt_of_cell? w _ hx219_2)).trans hx219_2
           replace hx219_3 := (HB.out.cell (World.block_lt_of_cell? w _ hx219_3)).trans hx219_3
           replace hx219_4 := (HB.out.cell (World.block_lt_of_cell? w _ hx219_4)).trans hx219_4
           replace hx219_5 := (HB.out.cell (World.block_lt_of_cell? w _ hx219_5)).trans hx219_5
           replace hx219_6 := (HB.out.cell (World.block_lt_of_cell? w _ hx219_6)).trans hx219_6
           have HR219_5 := Aside0.mk hi219_5
           have HC219_5 := Aside0.mk hl219_5
           clear hi219_5 hl219_5
           have HR219_6 := Aside0.mk hi219_6
           have HC219_6 := Aside0.mk hl219_6
           clear hi219_6 hl219_6
           replace p219 := eq_true p219
           replace q219 := eq_true q219
           have p220 : 0 ≤ (x59_2 : Int) := of_decide_eq_true (by first | (with_reducible assumption) | assumption)
           have q220 : x59_2 < (l1_6.length : Int) := of_decide_eq_true (by first | (with_reducible assumption) | assumption)
           obtain ⟨ad220, A220_5, c220_5, A220_6, c220_6, e220, hx220_0, hx220_1, hx220_2, hx220_3, hx220_4, hx220_5, hx220_6, hl220_5, hi220_5, hl220_6, hi220_6⟩ := at_T26 HR1_6.out x59_2 p220 q220
           have hw220_6 := hx220_6
           have hw220_5 := hx220_5
           have hw220_4 := hx220_4
           have hw220_3 := hx220_3
           have hw220_2 := hx220_2
           have hw220_1 := hx220_1
           have hw220_0 := hx220_0
           cases e220
           replace hx220_0 := (HB.out.cell (World.block_lt_of_cell? w _ hx220_0)).trans hx220_0
           replace hx220_1 := (HB.out.cell (World.block_lt_of_cell? w _ hx220_1)).trans hx220_1
           replace hx220_2 := (HB.out.cell (World.block_lt_of_cell? w _ hx220_2)).trans hx220_2
           replace hx220_3 := (HB.out.cell (World.block_lt_of_cell? w _ hx220_3)).trans hx220_3
           replace hx220_4 := (HB.out.cell (World.block_lt_of_cell? w _ hx220_4)).trans hx220_4
           replace hx220_5 := (HB.out.cell (World.block_lt_of_cell? w _ hx220_5)).trans hx220_5
           replace hx220_6 := (HB.out.cell (World.block_lt_of_cell? w _ hx220_6)).trans hx220_6
           have HR220_5 := Aside0.mk hi220_5
           have HC220_5 := Aside0.mk hl220_5
           clear hi220_5 hl220_5
           have HR220_6 := Aside0.mk hi220_6
           have HC220_6 := Aside0.mk hl220_6
           clear hi220_6 hl220_6
           replace p220 := eq_true p220
           replace q220 := eq_true q220
           refine start_ (n := 12) (S := fun w' => w'.cell? ⟨gb216, 0, none⟩ = some (.int .i64 a0_0) ∧ w'.cell? ⟨gb216, 1, none⟩ = some (.bool a0_1) ∧ w'.cell? ⟨gb216, 2, none⟩ = some (.int .i64 a0_2) ∧ w'.cell? ⟨gb216, 3, none⟩ = some (.int .u64 a0_3) ∧ w'.cell? ⟨gb216, 4, none⟩ = some (.string a0_4) ∧ w'.cell? ⟨gb216, 5, none⟩ = some (.slice A0_5 l0_5.length c0_5) ∧ w'.cell? ⟨gb216, 6, none⟩ = some (.slice (some ad219) l0_6.length c0_6) ∧ w'.cell? ⟨gb217, 0, none⟩ = some (.int .i64 a1_0) ∧ w'.cell? ⟨gb217, 1, none⟩ = some (.bool a1_1) ∧ w'.cell? ⟨gb217, 2, none⟩ = some (.int .i64 a1_2) ∧ w'.cell? ⟨gb217, 3, none⟩ = some (.int .u64 a1_3) ∧ w'.cell? ⟨gb217, 4, none⟩ = some (.string a1_4) ∧ w'.cell? ⟨gb217, 5, none⟩ = some (.slice A1_5 l1_5.length c1_5) ∧ w'.cell? ⟨gb217, 6, none⟩ = some (.slice (some ad220) l1_6.length c1_6) ∧ w'.cell? (ad219.add ((x59_2).toNat * 7)) = some (.int .i64 ((rd_T26 l0_6 x59_2).f0)) ∧ w'.cell? ⟨(ad219.add ((x59_2).toNat * 7)).block, (ad219.add ((x59_2).toNat * 7)).off + 1, none⟩ = some (.bool ((rd_T26 l0_6 x59_2).f1)) ∧ w'.cell? ⟨(ad219.add ((x59_2).toNat * 7)).block, (ad219.add ((x59_2).toNat * 7)).off + 2, none⟩ = some (.int .i64 ((rd_T26 l0_6 x59_2).f2)) ∧ w'.cell? ⟨(ad219.add ((x59_2).toNat * 7)).block, (ad219.add ((x59_2).toNat * 7)).off + 3, none⟩ = some (.int .u64 ((rd_T26 l0_6 x59_2).f3)) ∧ w'.cell? ⟨(ad219.add ((x59_2).toNat * 7)).block, (ad219.add ((x59_2).toNat * 7)).off + 4, none⟩ = some (.string ((rd_T26 l0_6 x59_2).f4)) ∧ w'.cell? ⟨(ad219.add ((x59_2).toNat * 7)).block, (ad219.add ((x59_2).toNat * 7)).off + 5, none⟩ = some (.slice A219_5 ((rd_T26 l0_6 x59_2).f5).length c219_5) ∧ w'.cell? ⟨(ad219.add ((x59_2).toNat * 7)).block, (ad219.add ((x59_2).toNat * 7)).off + 6, none⟩ = some (.slice A219_6 ((rd_T26 l0_6 x59_2).f6).length c219_6) ∧ w'.cell? (ad220.add ((x59_2).toNat * 7)) = some (.int .i64 ((rd_T26 l1_6 x59_2).f0)) ∧ w'.cell? ⟨(ad220.add ((x59_2).toNat * 7)).block, (ad220.add ((x59_2).toNat * 7)).off + 1, none⟩ = some (.bool ((rd_T26 l1_6 x59_2).f1)) ∧ w'.cell? ⟨(ad220.add ((x59_2).toNat * 7)).block, (ad220.add ((x59_2).toNat * 7)).off + 2, none⟩ = some (.int .i64 ((rd_T26 l1_6 x59_2).f2)) ∧ w'.cell? ⟨(ad220.add ((x59_2).toNat * 7)).block, (ad220.add ((x59_2).toNat * 7)).off + 3, none⟩ = some (.int .u64 ((rd_T26 l1_6 x59_2).f3)) ∧ w'.cell? ⟨(ad220.add ((x59_2).toNat * 7)).block, (ad220.add ((x59_2).toNat * 7)).off + 4, none⟩ = some (.string ((rd_T26 l1_6 x59_2).f4)) ∧ w'.cell? ⟨(ad220.add ((x59_2).toNat * 7)).block, (ad220.add ((x59_2).toNat * 7)).off + 5, none⟩ = some (.slice A220_5 ((rd_T26 l1_6 x59_2).f5).length c220_5) ∧ w'.cell? ⟨(ad220.add ((x59_2).toNat * 7)).block, (ad220.add ((x59_2).toNat * 7)).off + 6, none⟩ = some (.slice A220_6 ((rd_T26 l1_6 x59_2).f6).length c220_6)) (ds := []) #[false, false, false, false, false, false, false, false, false, false, false, false] (by kernel_rfl) rfl rfl ⟨(blk_cell BK216.out 0).trans rfl, (blk_cell BK216.out 1).trans rfl, (blk_cell BK216.out 2).trans rfl, (blk_cell BK216.out 3).trans rfl, (blk_cell BK216.out 4).trans rfl, (blk_cell BK216.out 5).trans rfl, (blk_cell BK216.out 6).trans rfl, (blk_cell BK217.out 0).trans rfl, (blk_cell BK217.out 1).trans rfl, (blk_cell BK217.out 2).trans rfl, (blk_cell BK217.out 3).trans rfl, (blk_cell BK217.out 4).trans rfl, (blk_cell BK217.out 5).trans rfl, (blk_cell BK217.out 6).trans rfl, ((HB.out.cell (World.block_lt_of_cell? w _ hw219_0)).trans hw219_0), ((HB.out.cell (World.block_lt_of_cell? w _ hw219_1)).trans hw219_1), ((HB.out.cell (World.block_lt_of_cell? w _ hw219_2)).trans hw219_2), ((HB.out.cell (World.block_lt_of_cell? w _ hw219_3)).trans hw219_3), ((HB.out.cell (World.block_lt_of_cell? w _ hw219_4)).trans hw219_4), ((HB.out.cell (World.block_lt_of_cell? w _ hw219_5)).trans hw219_5), ((HB.out.cell (World.block_lt_of_cell? w _ hw219_6)).trans hw219_6), ((HB.out.cell (World.block_lt_of_cell? w _ hw220_0)).trans hw220_0), ((HB.out.cell (World.block_lt_of_cell? w _ hw220_1)).trans hw220_1), ((HB.out.cell (World.block_lt_of_cell? w _ hw220_2)).trans hw220_2), ((HB.out.cell (World.block_lt_of_cell? w _ hw220_3)).trans hw220_3), ((HB.out.cell (World.block_lt_of_cell? w _ hw220_4)).trans hw220_4), ((HB.out.cell (World.block_lt_of_cell? w _ hw220_5)).trans hw220_5), ((HB.out.cell (World.block_lt_of_cell? w _ hw220_6)).trans hw220_6)⟩ (fun hHeld => ?_); refine with_tabW laws_same.tab6 laws_same.bits6 (fun HT_ HW_ => ?_)
           generalize wr.drew = w43 at BK216 BK217 HB HR219_5 HR219_6 HR220_5 HR220_6 hx219_0 hx219_1 hx219_2 hx219_3 hx219_4 hx219_5 hx219_6 hx220_0 hx220_1 hx220_2 hx220_3 hx220_4 hx220_5 hx220_6 hHeld ⊢
           refine pure_ (i := 0) (N := some 62) (v := ?_) (a' := ?_) #[true, false, false, false, false, false, false, false, false, false, false, false] rfl rfl (any_of HT_.out (by kernel_rfl)) (fun _ _ _ h => h) (Or.inl ⟨by rfl, ?_⟩) ?_ ?_
           rotate_left
           ·intro w'
            go_simp
            with_reducible rfl
           rotate_left
           ·simp only [Act.put, List.setIfInBounds_toArray, List.set_cons_zero, List.set_cons_succ, i64_w, i32_w]
            rfl
           refine pure_ (i := 2) (N := some 64) (v := ?_) (a' := ?_) #[true, false, true, false, false, false, false, false, false, false, false, false] rfl rfl (any_of HT_.out (by kernel_rfl)) (fun _ _ _ h => h) (Or.inl ⟨by rfl, ?_⟩) ?_ ?_
           rotate_left
           ·intro w'
            go_simp
            with_reducible rfl
           rotate_left
           ·simp only [Act.put, List.setIfInBounds_toArray, List.set_cons_zero, List.set_cons_succ, i64_w, i32_w]
            rfl
           refine pure_ (i := 5) (N := some 67) (v := ?_) (a' := ?_) #[true, false, true, false, false, true, false, false, false, false, false, false] rfl rfl (any_of HT_.out (by kernel_rfl)) (fun _ _ _ h => h) (Or.inl ⟨by rfl, ?_⟩) ?_ ?_
           rotate_left
           ·intro w'
            go_simp
            with_reducible rfl
           rotate_left
           ·simp only [Act.put, List.setIfInBounds_toArray, List.set_cons_zero, List.set_cons_succ, i64_w, i32_w]
            rfl
           refine pure_ (i := 7) (N := some 69) (v := ?_) (a' := ?_) #[true, false, true, false, false, true, false, true, false, false, false, false] rfl rfl (any_of HT_.out (by kernel_rfl)) (fun _ _ _ h => h) (Or.inl ⟨by rfl, ?_⟩) ?_ ?_
           rotate_left
           ·intro w'
            go_simp
            with_reducible rfl
           rotate_left
           ·simp only [Act.put, List.setIfInBounds_toArray, List.set_cons_zero, List.set_cons_succ, i64_w, i32_w]
            rfl
           refine take_ (i := 1) (N := some 63) (v := ?_) (a' := ?_) #[true, true, true, false, false, true, false, true, false, false, false, false] rfl rfl (take_ofW HT_.out HW_.out (by kernel_rfl)) (fun _ _ _ h => h) (Or.inl ⟨by rfl, ?_⟩) hHeld ?_ ?_
           rotate_left
           ·rintro w' ⟨s0, s1, s2, s3, s4, s5, s6, s7, s8, s9, s10, s11, s12, s13, s14, s15, s16, s17, s18, s19, s20, s21, s22, s23, s24, s25, s26, s27⟩
            go_simp
            with_reducible rfl
           rotate_left
           ·simp only [Act.put, List.setIfInBounds_toArray, List.set_cons_zero, List.set_cons_succ, i64_w, i32_w]
            rfl
           refine pure_ (i := 3) (N := some 65) (v := ?_) (a' := ?_) #[true, true, true, true, false, true, false, true, false, false, false, false] rfl rfl (any_of HT_.out (by kernel_rfl)) (fun _ _ _ h => h) (Or.inl ⟨by rfl, ?_⟩) ?_ ?_
           rotate_left
           ·intro w'
            go_simp
            with_reducible rfl
           rotate_left
           ·simp only [Act.put, List.setIfInBounds_toArray, List.set_cons_zero, List.set_cons_succ, i64_w, i32_w]
            rfl
           refine take_ (i := 4) (N := some 66) (v := ?_) (a' := ?_) #[true, true, true, true, true, true, false, true, false, false, false, false] rfl rfl (take_ofW HT_.out HW_.out (by kernel_rfl)) (fun _ _ _ h => h) (Or.inl ⟨by rfl, ?_⟩) hHeld ?_ ?_
           rotate_left
           ·rintro w' ⟨s0, s1, s2, s3, s4, s5, s6, s7, s8, s9, s10, s11, s12, s13, s14, s15, s16, s17, s18, s19, s20, s21, s22, s23, s24, s25, s26, s27⟩
            go_simp
            with_reducible rfl
           rotate_left
           ·simp only [Act.put, List.setIfInBounds_toArray, List.set_cons_zero, List.set_cons_succ, i64_w, i32_w]
            rfl
           refine take_ (i := 6) (N := some 68) (v := ?_) (a' := ?_) #[true, true, true, true, true, true, true, true, false, false, false, false] rfl rfl (take_ofW HT_.out HW_.out (by kernel_rfl)) (fun _ _ _ h => h) (Or.inl ⟨by rfl, ?_⟩) hHeld ?_ ?_
           rotate_left
           ·rintro w' ⟨s0, s1, s2, s3, s4, s5, s6, s7, s8, s9, s10, s11, s12, s13, s14, s15, s16, s17, s18, s19, s20, s21, s22, s23, s24, s25, s26, s27⟩
            go_simp
            with_reducible rfl
           rotate_left
           ·simp only [Act.put, List.setIfInBounds_toArray, List.set_cons_zero, List.set_cons_succ, i64_w, i32_w]
            rfl
           refine pure_ (i := 8) (N := some 70) (v := ?_) (a' := ?_) #[true, true, true, true, true, true, true, true, true, false, false, false] rfl rfl (any_of HT_.out (by kernel_rfl)) (fun _ _ _ h => h) (Or.inl ⟨by rfl, ?_⟩) ?_ ?_
           rotate_left
           ·intro w'
            go_simp
            with_reducible rfl
           rotate_left
           ·simp only [Act.put, List.setIfInBounds_toArray, List.set_cons_zero, List.set_cons_succ, i64_w, i32_w]
            rfl
           refine take_ (i := 9) (N := some 71) (v := ?_) (a' := ?_) #[true, true, true, true, true, true, true, true, true, true, false, false] rfl rfl (take_ofW HT_.out HW_.out (by kernel_rfl)) (fun _ _ _ h => h) (Or.inl ⟨by rfl, ?_⟩) hHeld ?_ ?_
           rotate_left
           ·rintro w' ⟨s0, s1, s2, s3, s4, s5, s6, s7, s8, s9, s10, s11, s12, s13, s14, s15, s16, s17, s18, s19, s20, s21, s22, s23, s24, s25, s26, s27⟩
            go_simp
            with_reducible rfl
           rotate_left
           ·simp only [Act.put, List.setIfInBounds_toArray, List.set_cons_zero, List.set_cons_succ, i64_w, i32_w]
            rfl
           refine one_ (i := 10) (N := some 72) #[true, true, true, true, true, true, true, true, true, true, true, false] rfl rfl (one_of HT_.out (by kernel_rfl)) (by decide) (fun K hK => ?_)
           refine goes_ Try.func32 (by kernel_rfl) rfl #[.agg #[.int .i64 ((rd_T26 l0_6 x59_2).f0), .bool ((rd_T26 l0_6 x59_2).f1), .int .i64 ((rd_T26 l0_6 x59_2).f2), .int .u64 ((rd_T26 l0_6 x59_2).f3), .string ((rd_T26 l0_6 x59_2).f4), .slice A219_5 ((rd_T26 l0_6 x59_2).f5).length c219_5, .slice A219_6 ((rd_T26 l0_6 x59_2).f6).length c219_6], .agg #[.int .i64 ((rd_T26 l1_6 x59_2).f0), .bool ((rd_T26 l1_6 x59_2).f1), .int .i64 ((rd_T26 l1_6 x59_2).f2), .int .u64 ((rd_T26 l1_6 x59_2).f3), .string ((rd_T26 l1_6 x59_2).f4), .slice A220_5 ((rd_T26 l1_6 x59_2).f5).length c220_5, .slice A220_6 ((rd_T26 l1_6 x59_2).f6).length c220_6]] (by rfl) rfl rfl (by (try simp only [List.map_toArray, List.map_cons, List.map_nil]); first | done | rfl | (simp only [List.length_drop, List.length_take]; rfl)) ?_
           with_reducible refine (ih k2 (by have := HJ2.out; have := HK2.out; omega) ((rd_T26 l0_6 x59_2).f0) ((rd_T26 l0_6 x59_2).f1) ((rd_T26 l0_6 x59_2).f2) ((rd_T26 l0_6 x59_2).f3) ((rd_T26 l0_6 x59_2).f4) _ _ ((rd_T26 l0_6 x59_2).f5) _ _ ((rd_T26 l0_6 x59_2).f6) ((rd_T26 l1_6 x59_2).f0) ((rd_T26 l1_6 x59_2).f1) ((rd_T26 l1_6 x59_2).f2) ((rd_T26 l1_6 x59_2).f3) ((rd_T26 l1_6 x59_2).f4) _ _ ((rd_T26 l1_6 x59_2).f5) _ _ ((rd_T26 l1_6 x59_2).f6) true _ ?side1 ?side2 ?side3 ?side4 ?side5 ?side6 ?side7 ?side8 A41.out).mono ?_
           (case side1 => repeat (first | exact (Kd.C_below HR219_5.out HB.out) | (with_reducible refine Kd.C_alloc ?_ _) | (with_reducible refine Kd.C_drewN ?_ _) | (with_reducible refine Kd.C_drew ?_)))
           (case side2 => exact HC219_5.out)
           (case side3 => repeat (first | exact (Kd.C_below HR219_6.out HB.out) | (with_reducible refine Kd.C_alloc ?_ _) | (with_reducible refine Kd.C_drewN ?_ _) | (with_reducible refine Kd.C_drew ?_)))
           (case side4 => exact HC219_6.out)
           (case side5 => repeat (first | exact (Kd.C_below HR220_5.out HB.out) | (with_reducible refine Kd.C_alloc ?_ _) | (with_reducible refine Kd.C_drewN ?_ _) | (with_reducible refine Kd.C_drew ?_)))
           (case side6 => exact HC220_5.out)
           (case side7 => repeat (first | exact (Kd.C_below HR220_6.out HB.out) | (with_reducible refine Kd.C_alloc ?_ _) | (with_reducible refine Kd.C_drewN ?_ _) | (with_reducible refine Kd.C_drew ?_)))
           (case side8 => exact HC220_6.out)
           rintro e w44 ⟨rfl, hb⟩
           refine ⟨_, rfl, ?_⟩
           have n0_ := Aside0.mk (blk_below (g := gb216) (o := .cells #[.int .i64 a0_0, .bool a0_1, .int .i64 a0_2, .int .u64 a0_3, .string a0_4, .slice A0_5 l0_5.length c0_5, .slice (some ad219) l0_6.length c0_6] 26 (0, 0)) (by (with_reducible repeat (first | refine blk_drewN ?_ _ | refine blk_drew ?_ | refine blk_alloc ?_ _)); exact BK216.out) hb)
           have n1_ := Aside0.mk (blk_below (g := gb217) (o := .cells #[.int .i64 a1_0, .bool a1_1, .int .i64 a1_2, .int .u64 a1_3, .string a1_4, .slice A1_5 l1_5.length c1_5, .slice (some ad220) l1_6.length c1_6] 26 (0, 0)) (by (with_reducible repeat (first | refine blk_drewN ?_ _ | refine blk_drew ?_ | refine blk_alloc ?_ _)); exact BK217.out) hb)
           have n2_ := Aside0.mk (below_step (by repeat (first | (with_reducible first | exact HB.out | apply below_alloc | apply pw_below_drewN | apply below_drew1 | refine below_set ?_ GE216.out | refine below_set ?_ GE217.out) | exact HB.out)) hb)
           clear BK216
           clear BK217
           clear HB
           have BK216 := n0_
           have BK217 := n1_
           have HB := n2_
           clear n0_ n1_ n2_
           (try clear hb)
           (try clear hb2)
           (try clear hk)
           (try clear hi)
           refine hK.out _ _ ⟨(blk_cell BK216.out 0).trans rfl, (blk_cell BK216.out 1).trans rfl, (blk_cell BK216.out 2).trans rfl, (blk_cell BK216.out 3).trans rfl, (blk_cell BK216.out 4).trans rfl, (blk_cell BK216.out 5).trans rfl, (blk_cell BK216.out 6).trans rfl, (blk_cell BK217.out 0).trans rfl, (blk_cell BK217.out 1).trans rfl, (blk_cell BK217.out 2).trans rfl, (blk_cell BK217.out 3).trans rfl, (blk_cell BK217.out 4).trans rfl, (blk_cell BK217.out 5).trans rfl, (blk_cell BK217.out 6).trans rfl, ((HB.out.cell (World.block_lt_of_cell? w _ hw219_0)).trans hw219_0), ((HB.out.cell (World.block_lt_of_cell? w _ hw219_1)).trans hw219_1), ((HB.out.cell (World.block_lt_of_cell? w _ hw219_2)).trans hw219_2), ((HB.out.cell (World.block_lt_of_cell? w _ hw219_3)).trans hw219_3), ((HB.out.cell (World.block_lt_of_cell? w _ hw219_4)).trans hw219_4), ((HB.out.cell (World.block_lt_of_cell? w _ hw219_5)).trans hw219_5), ((HB.out.cell (World.block_lt_of_cell? w _ hw219_6)).trans hw219_6), ((HB.out.cell (World.block_lt_of_cell? w _ hw220_0)).trans hw220_0), ((HB.out.cell (World.block_lt_of_cell? w _ hw220_1)).trans hw220_1), ((HB.out.cell (World.block_lt_of_cell? w _ hw220_2)).trans hw220_2), ((HB.out.cell (World.block_lt_of_cell? w _ hw220_3)).trans hw220_3), ((HB.out.cell (World.block_lt_of_cell? w _ hw220_4)).trans hw220_4), ((HB.out.cell (World.block_lt_of_cell? w _ hw220_5)).trans hw220_5), ((HB.out.cell (World.block_lt_of_cell? w _ hw220_6)).trans hw220_6)⟩ (fun hHeld => ?_)
           clear hK K
           refine norm_ (a' := ?_) ?_ ?_
           rotate_left
           ·show Act.put _ (some 72) _ = _
            simp only [Act.put, List.setIfInBounds_toArray, List.set_cons_zero, List.set_cons_succ, i64_w, i32_w]
            rfl
           refine pure_ (i := 11) (N := some 73) (v := ?_) (a' := ?_) #[true, true, true, true, true, true, true, true, true, true, true, true] rfl rfl (any_of HT_.out (by kernel_rfl)) (fun _ _ _ h => h) (Or.inl ⟨by rfl, ?_⟩) ?_ ?_
           rotate_left
           ·intro w'
            go_simp
            with_reducible rfl
           rotate_left
           ·simp only [Act.put, List.setIfInBounds_toArray, List.set_cons_zero, List.set_cons_succ, i64_w, i32_w]
            rfl
           refine done_ (done_of HT_.out (by kernel_rfl)) ?_
           try go_wp2
           go_roundg k2
           case measure => have := HJ2.out; have := HK2.out; omega
           case rel => exact ⟨(wrap64 (x59_2 + 1)), (by first | rfl | (simp; done) | (simp [*]; done)), H', ⟨by have := HJ2.out; have := HK2.out; omega⟩, ⟨by (with_reducible repeat (first | refine blk_drewN ?_ _ | refine blk_drew ?_ | refine blk_alloc ?_ _)); exact BK216.out⟩, ⟨by (with_reducible repeat (first | refine blk_drewN ?_ _ | refine blk_drew ?_ | refine blk_alloc ?_ _)); exact BK217.out⟩, ⟨by repeat (first | (with_reducible first | exact HB.out | apply below_alloc | apply pw_below_drewN | apply below_drew1 | refine below_set ?_ GE216.out | refine below_set ?_ GE217.out) | exact HB.out)⟩⟩
          ·replace c42 := Bool.eq_false_iff.mpr c42
           subst c42
           have H1 : (some false) = some r := by rw [if_neg (show ¬ (false = true) by decide)] at H; exact H
           clear H
           have H := H1
           clear H1
           obtain rfl := Option.some.inj H
           try go_wp2
           have n0_ := Aside0.mk (blk_drew BK216.out)
           have n1_ := Aside0.mk (blk_drew BK217.out)
           have n2_ := Aside0.mk (below_drew1 HB.out)
           clear BK216
           clear BK217
           clear HB
           have BK216 := n0_
           have BK217 := n1_
           have HB := n2_
           clear n0_ n1_ n2_
           have p219 : 0 ≤ (x59_2 : Int) := of_decide_eq_true (by first | (with_reducible assumption) | assumption)
           have q219 : x59_2 < (l0_6.length : Int) := of_decide_eq_true (by first | (with_reducible assumption) | assumption)
           obtain ⟨ad219, A219_5, c219_5, A219_6, c219_6, e219, hx219_0, hx219_1, hx219_2, hx219_3, hx219_4, hx219_5, hx219_6, hl219_5, hi219_5, hl219_6, hi219_6⟩ := at_T26 HR0_6.out x59_2 p219 q219
           have hw219_6 := hx219_6
           have hw219_5 := hx219_5
           have hw219_4 := hx219_4
           have hw219_3 := hx219_3
           have hw219_2 := hx219_2
           have hw219_1 := hx219_1
           have hw219_0 := hx219_0
           cases e219
           replace hx219_0 := (HB.out.cell (World.block_lt_of_cell? w _ hx219_0)).trans hx219_0
           replace hx219_1 := (HB.out.cell (World.block_lt_of_cell? w _ hx219_1)).trans hx219_1
           replace hx219_2 := (HB.out.cell (World.block_lt_of_cell? w _ hx219_2)).trans hx219_2
           replace hx219_3 := (HB.out.cell (World.block_lt_of_cell? w _ hx219_3)).trans hx219_3
           replace hx219_4 := (HB.out.cell (World.block_lt_of_cell? w _ hx219_4)).trans hx219_4
           replace hx219_5 := (HB.out.cell (World.block_lt_of_cell? w _ hx219_5)).trans hx219_5
           replace hx219_6 := (HB.out.cell (World.block_lt_of_cell? w _ hx219_6)).trans hx219_6
           have HR219_5 := Aside0.mk hi219_5
           have HC219_5 := Aside0.mk hl219_5
           clear hi219_5 hl219_5
           have HR219_6 := Aside0.mk hi219_6
           have HC219_6 := Aside0.mk hl219_6
           clear hi219_6 hl219_6
           replace p219 := eq_true p219
           replace q219 := eq_true q219
           have p220 : 0 ≤ (x59_2 : Int) := of_decide_eq_true (by first | (with_reducible assumption) | assumption)
           have q220 : x59_2 < (l1_6.length : Int) := of_decide_eq_true (by first | (with_reducible assumption) | assumption)
           obtain ⟨ad220, A220_5, c220_5, A220_6, c220_6, e220, hx220_0, hx220_1, hx220_2, hx220_3, hx220_4, hx220_5, hx220_6, hl220_5, hi220_5, hl220_6, hi220_6⟩ := at_T26 HR1_6.out x59_2 p220 q220
           have hw220_6 := hx220_6
           have hw220_5 := hx220_5
           have hw220_4 := hx220_4
           have hw220_3 := hx220_3
           have hw220_2 := hx220_2
           have hw220_1 := hx220_1
           have hw220_0 := hx220_0
           cases e220
           replace hx220_0 := (HB.out.cell (World.block_lt_of_cell? w _ hx220_0)).trans hx220_0
           replace hx220_1 := (HB.out.cell (World.block_lt_of_cell? w _ hx220_1)).trans hx220_1
           replace hx220_2 := (HB.out.cell (World.block_lt_of_cell? w _ hx220_2)).trans hx220_2
           replace hx220_3 := (HB.out.cell (World.block_lt_of_cell? w _ hx220_3)).trans hx220_3
           replace hx220_4 := (HB.out.cell (World.block_lt_of_cell? w _ hx220_4)).trans hx220_4
           replace hx220_5 := (HB.out.cell (World.block_lt_of_cell? w _ hx220_5)).trans hx220_5
           replace hx220_6 := (HB.out.cell (World.block_lt_of_cell? w _ hx220_6)).trans hx220_6
           have HR220_5 := Aside0.mk hi220_5
           have HC220_5 := Aside0.mk hl220_5
           clear hi220_5 hl220_5
           have HR220_6 := Aside0.mk hi220_6
           have HC220_6 := Aside0.mk hl220_6
           clear hi220_6 hl220_6
           replace p220 := eq_true p220
           replace q220 := eq_true q220
           refine start_ (n := 12) (S := fun w' => w'.cell? ⟨gb216, 0, none⟩ = some (.int .i64 a0_0) ∧ w'.cell? ⟨gb216, 1, none⟩ = some (.bool a0_1) ∧ w'.cell? ⟨gb216, 2, none⟩ = some (.int .i64 a0_2) ∧ w'.cell? ⟨gb216, 3, none⟩ = some (.int .u64 a0_3) ∧ w'.cell? ⟨gb216, 4, none⟩ = some (.string a0_4) ∧ w'.cell? ⟨gb216, 5, none⟩ = some (.slice A0_5 l0_5.length c0_5) ∧ w'.cell? ⟨gb216, 6, none⟩ = some (.slice (some ad219) l0_6.length c0_6) ∧ w'.cell? ⟨gb217, 0, none⟩ = some (.int .i64 a1_0) ∧ w'.cell? ⟨gb217, 1, none⟩ = some (.bool a1_1) ∧ w'.cell? ⟨gb217, 2, none⟩ = some (.int .i64 a1_2) ∧ w'.cell? ⟨gb217, 3, none⟩ = some (.int .u64 a1_3) ∧ w'.cell? ⟨gb217, 4, none⟩ = some (.string a1_4) ∧ w'.cell? ⟨gb217, 5, none⟩ = some (.slice A1_5 l1_5.length c1_5) ∧ w'.cell? ⟨gb217, 6, none⟩ = some (.slice (some ad220) l1_6.length c1_6) ∧ w'.cell? (ad219.add ((x59_2).toNat * 7)) = some (.int .i64 ((rd_T26 l0_6 x59_2).f0)) ∧ w'.cell? ⟨(ad219.add ((x59_2).toNat * 7)).block, (ad219.add ((x59_2).toNat * 7)).off + 1, none⟩ = some (.bool ((rd_T26 l0_6 x59_2).f1)) ∧ w'.cell? ⟨(ad219.add ((x59_2).toNat * 7)).block, (ad219.add ((x59_2).toNat * 7)).off + 2, none⟩ = some (.int .i64 ((rd_T26 l0_6 x59_2).f2)) ∧ w'.cell? ⟨(ad219.add ((x59_2).toNat * 7)).block, (ad219.add ((x59_2).toNat * 7)).off + 3, none⟩ = some (.int .u64 ((rd_T26 l0_6 x59_2).f3)) ∧ w'.cell? ⟨(ad219.add ((x59_2).toNat * 7)).block, (ad219.add ((x59_2).toNat * 7)).off + 4, none⟩ = some (.string ((rd_T26 l0_6 x59_2).f4)) ∧ w'.cell? ⟨(ad219.add ((x59_2).toNat * 7)).block, (ad219.add ((x59_2).toNat * 7)).off + 5, none⟩ = some (.slice A219_5 ((rd_T26 l0_6 x59_2).f5).length c219_5) ∧ w'.cell? ⟨(ad219.add ((x59_2).toNat * 7)).block, (ad219.add ((x59_2).toNat * 7)).off + 6, none⟩ = some (.slice A219_6 ((rd_T26 l0_6 x59_2).f6).length c219_6) ∧ w'.cell? (ad220.add ((x59_2).toNat * 7)) = some (.int .i64 ((rd_T26 l1_6 x59_2).f0)) ∧ w'.cell? ⟨(ad220.add ((x59_2).toNat * 7)).block, (ad220.add ((x59_2).toNat * 7)).off + 1, none⟩ = some (.bool ((rd_T26 l1_6 x59_2).f1)) ∧ w'.cell? ⟨(ad220.add ((x59_2).toNat * 7)).block, (ad220.add ((x59_2).toNat * 7)).off + 2, none⟩ = some (.int .i64 ((rd_T26 l1_6 x59_2).f2)) ∧ w'.cell? ⟨(ad220.add ((x59_2).toNat * 7)).block, (ad220.add ((x59_2).toNat * 7)).off + 3, none⟩ = some (.int .u64 ((rd_T26 l1_6 x59_2).f3)) ∧ w'.cell? ⟨(ad220.add ((x59_2).toNat * 7)).block, (ad220.add ((x59_2).toNat * 7)).off + 4, none⟩ = some (.string ((rd_T26 l1_6 x59_2).f4)) ∧ w'.cell? ⟨(ad220.add ((x59_2).toNat * 7)).block, (ad220.add ((x59_2).toNat * 7)).off + 5, none⟩ = some (.slice A220_5 ((rd_T26 l1_6 x59_2).f5).length c220_5) ∧ w'.cell? ⟨(ad220.add ((x59_2).toNat * 7)).block, (ad220.add ((x59_2).toNat * 7)).off + 6, none⟩ = some (.slice A220_6 ((rd_T26 l1_6 x59_2).f6).length c220_6)) (ds := []) #[false, false, false, false, false, false, false, false, false, false, false, false] (by kernel_rfl) rfl rfl ⟨(blk_cell BK216.out 0).trans rfl, (blk_cell BK216.out 1).trans rfl, (blk_cell BK216.out 2).trans rfl, (blk_cell BK216.out 3).trans rfl, (blk_cell BK216.out 4).trans rfl, (blk_cell BK216.out 5).trans rfl, (blk_cell BK216.out 6).trans rfl, (blk_cell BK217.out 0).trans rfl, (blk_cell BK217.out 1).trans rfl, (blk_cell BK217.out 2).trans rfl, (blk_cell BK217.out 3).trans rfl, (blk_cell BK217.out 4).trans rfl, (blk_cell BK217.out 5).trans rfl, (blk_cell BK217.out 6).trans rfl, ((HB.out.cell (World.block_lt_of_cell? w _ hw219_0)).trans hw219_0), ((HB.out.cell (World.block_lt_of_cell? w _ hw219_1)).trans hw219_1), ((HB.out.cell (World.block_lt_of_cell? w _ hw219_2)).trans hw219_2), ((HB.out.cell (World.block_lt_of_cell? w _ hw219_3)).trans hw219_3), ((HB.out.cell (World.block_lt_of_cell? w _ hw219_4)).trans hw219_4), ((HB.out.cell (World.block_lt_of_cell? w _ hw219_5)).trans hw219_5), ((HB.out.cell (World.block_lt_of_cell? w _ hw219_6)).trans hw219_6), ((HB.out.cell (World.block_lt_of_cell? w _ hw220_0)).trans hw220_0), ((HB.out.cell (World.block_lt_of_cell? w _ hw220_1)).trans hw220_1), ((HB.out.cell (World.block_lt_of_cell? w _ hw220_2)).trans hw220_2), ((HB.out.cell (World.block_lt_of_cell? w _ hw220_3)).trans hw220_3), ((HB.out.cell (World.block_lt_of_cell? w _ hw220_4)).trans hw220_4), ((HB.out.cell (World.block_lt_of_cell? w _ hw220_5)).trans hw220_5), ((HB.out.cell (World.block_lt_of_cell? w _ hw220_6)).trans hw220_6)⟩ (fun hHeld => ?_); refine with_tabW laws_same.tab6 laws_same.bits6 (fun HT_ HW_ => ?_)
           generalize wr.drew = w45 at BK216 BK217 HB HR219_5 HR219_6 HR220_5 HR220_6 hx219_0 hx219_1 hx219_2 hx219_3 hx219_4 hx219_5 hx219_6 hx220_0 hx220_1 hx220_2 hx220_3 hx220_4 hx220_5 hx220_6 hHeld ⊢
           refine pure_ (i := 0) (N := some 62) (v := ?_) (a' := ?_) #[true, false, false, false, false, false, false, false, false, false, false, false] rfl rfl (any_of HT_.out (by kernel_rfl)) (fun _ _ _ h => h) (Or.inl ⟨by rfl, ?_⟩) ?_ ?_
           rotate_left
           ·intro w'
            go_simp
            with_reducible rfl
           rotate_left
           ·simp only [Act.put, List.setIfInBounds_toArray, List.set_cons_zero, List.set_cons_succ, i64_w, i32_w]
            rfl
           refine pure_ (i := 2) (N := some 64) (v := ?_) (a' := ?_) #[true, false, true, false, false, false, false, false, false, false, false, false] rfl rfl (any_of HT_.out (by kernel_rfl)) (fun _ _ _ h => h) (Or.inl ⟨by rfl, ?_⟩) ?_ ?_
           rotate_left
           ·intro w'
            go_simp
            with_reducible rfl
           rotate_left
           ·simp only [Act.put, List.setIfInBounds_toArray, List.set_cons_zero, List.set_cons_succ, i64_w, i32_w]
            rfl
           refine pure_ (i := 5) (N := some 67) (v := ?_) (a' := ?_) #[true, false, true, false, false, true, false, false, false, false, false, false] rfl rfl (any_of HT_.out (by kernel_rfl)) (fun _ _ _ h => h) (Or.inl ⟨by rfl, ?_⟩) ?_ ?_
           rotate_left
           ·intro w'
            go_simp
            with_reducible rfl
           rotate_left
           ·simp only [Act.put, List.setIfInBounds_toArray, List.set_cons_zero, List.set_cons_succ, i64_w, i32_w]
            rfl
           refine pure_ (i := 7) (N := some 69) (v := ?_) (a' := ?_) #[true, false, true, false, false, true, false, true, false, false, false, false] rfl rfl (any_of HT_.out (by kernel_rfl)) (fun _ _ _ h => h) (Or.inl ⟨by rfl, ?_⟩) ?_ ?_
           rotate_left
           ·intro w'
            go_simp
            with_reducible rfl
           rotate_left
           ·simp only [Act.put, List.setIfInBounds_toArray, List.set_cons_zero, List.set_cons_succ, i64_w, i32_w]
            rfl
           refine take_ (i := 1) (N := some 63) (v := ?_) (a' := ?_) #[true, true, true, false, false, true, false, true, false, false, false, false] rfl rfl (take_ofW HT_.out HW_.out (by kernel_rfl)) (fun _ _ _ h => h) (Or.inl ⟨by rfl, ?_⟩) hHeld ?_ ?_
           rotate_left
           ·rintro w' ⟨s0, s1, s2, s3, s4, s5, s6, s7, s8, s9, s10, s11, s12, s13, s14, s15, s16, s17, s18, s19, s20, s21, s22, s23, s24, s25, s26, s27⟩
            go_simp
            with_reducible rfl
           rotate_left
           ·simp only [Act.put, List.setIfInBounds_toArray, List.set_cons_zero, List.set_cons_succ, i64_w, i32_w]
            rfl
           refine pure_ (i := 3) (N := some 65) (v := ?_) (a' := ?_) #[true, true, true, true, false, true, false, true, false, false, false, false] rfl rfl (any_of HT_.out (by kernel_rfl)) (fun _ _ _ h => h) (Or.inl ⟨by rfl, ?_⟩) ?_ ?_
           rotate_left
           ·intro w'
            go_simp
            with_reducible rfl
           rotate_left
           ·simp only [Act.put, List.setIfInBounds_toArray, List.set_cons_zero, List.set_cons_succ, i64_w, i32_w]
            rfl
           refine take_ (i := 4) (N := some 66) (v := ?_) (a' := ?_) #[true, true, true, true, true, true, false, true, false, false, false, false] rfl rfl (take_ofW HT_.out HW_.out (by kernel_rfl)) (fun _ _ _ h => h) (Or.inl ⟨by rfl, ?_⟩) hHeld ?_ ?_
           rotate_left
           ·rintro w' ⟨s0, s1, s2, s3, s4, s5, s6, s7, s8, s9, s10, s11, s12, s13, s14, s15, s16, s17, s18, s19, s20, s21, s22, s23, s24, s25, s26, s27⟩
            go_simp
            with_reducible rfl
           rotate_left
           ·simp only [Act.put, List.setIfInBounds_toArray, List.set_cons_zero, List.set_cons_succ, i64_w, i32_w]
            rfl
           refine take_ (i := 6) (N := some 68) (v := ?_) (a' := ?_) #[true, true, true, true, true, true, true, true, false, false, false, false] rfl rfl (take_ofW HT_.out HW_.out (by kernel_rfl)) (fun _ _ _ h => h) (Or.inl ⟨by rfl, ?_⟩) hHeld ?_ ?_
           rotate_left
           ·rintro w' ⟨s0, s1, s2, s3, s4, s5, s6, s7, s8, s9, s10, s11, s12, s13, s14, s15, s16, s17, s18, s19, s20, s21, s22, s23, s24, s25, s26, s27⟩
            go_simp
            with_reducible rfl
           rotate_left
           ·simp only [Act.put, List.setIfInBounds_toArray, List.set_cons_zero, List.set_cons_succ, i64_w, i32_w]
            rfl
           refine pure_ (i := 8) (N := some 70) (v := ?_) (a' := ?_) #[true, true, true, true, true, true, true, true, true, false, false, false] rfl rfl (any_of HT_.out (by kernel_rfl)) (fun _ _ _ h => h) (Or.inl ⟨by rfl, ?_⟩) ?_ ?_
           rotate_left
           ·intro w'
            go_simp
            with_reducible rfl
           rotate_left
           ·simp only [Act.put, List.setIfInBounds_toArray, List.set_cons_zero, List.set_cons_succ, i64_w, i32_w]
            rfl
           refine take_ (i := 9) (N := some 71) (v := ?_) (a' := ?_) #[true, true, true, true, true, true, true, true, true, true, false, false] rfl rfl (take_ofW HT_.out HW_.out (by kernel_rfl)) (fun _ _ _ h => h) (Or.inl ⟨by rfl, ?_⟩) hHeld ?_ ?_
           rotate_left
           ·rintro w' ⟨s0, s1, s2, s3, s4, s5, s6, s7, s8, s9, s10, s11, s12, s13, s14, s15, s16, s17, s18, s19, s20, s21, s22, s23, s24, s25, s26, s27⟩
            go_simp
            with_reducible rfl
           rotate_left
           ·simp only [Act.put, List.setIfInBounds_toArray, List.set_cons_zero, List.set_cons_succ, i64_w, i32_w]
            rfl
           refine one_ (i := 10) (N := some 72) #[true, true, true, true, true, true, true, true, true, true, true, false] rfl rfl (one_of HT_.out (by kernel_rfl)) (by decide) (fun K hK => ?_)
           refine goes_ Try.func32 (by kernel_rfl) rfl #[.agg #[.int .i64 ((rd_T26 l0_6 x59_2).f0), .bool ((rd_T26 l0_6 x59_2).f1), .int .i64 ((rd_T26 l0_6 x59_2).f2), .int .u64 ((rd_T26 l0_6 x59_2).f3), .string ((rd_T26 l0_6 x59_2).f4), .slice A219_5 ((rd_T26 l0_6 x59_2).f5).length c219_5, .slice A219_6 ((rd_T26 l0_6 x59_2).f6).length c219_6], .agg #[.int .i64 ((rd_T26 l1_6 x59_2).f0), .bool ((rd_T26 l1_6 x59_2).f1), .int .i64 ((rd_T26 l1_6 x59_2).f2), .int .u64 ((rd_T26 l1_6 x59_2).f3), .string ((rd_T26 l1_6 x59_2).f4), .slice A220_5 ((rd_T26 l1_6 x59_2).f5).length c220_5, .slice A220_6 ((rd_T26 l1_6 x59_2).f6).length c220_6]] (by rfl) rfl rfl (by (try simp only [List.map_toArray, List.map_cons, List.map_nil]); first | done | rfl | (simp only [List.length_drop, List.length_take]; rfl)) ?_
           with_reducible refine (ih k2 (by have := HJ2.out; have := HK2.out; omega) ((rd_T26 l0_6 x59_2).f0) ((rd_T26 l0_6 x59_2).f1) ((rd_T26 l0_6 x59_2).f2) ((rd_T26 l0_6 x59_2).f3) ((rd_T26 l0_6 x59_2).f4) _ _ ((rd_T26 l0_6 x59_2).f5) _ _ ((rd_T26 l0_6 x59_2).f6) ((rd_T26 l1_6 x59_2).f0) ((rd_T26 l1_6 x59_2).f1) ((rd_T26 l1_6 x59_2).f2) ((rd_T26 l1_6 x59_2).f3) ((rd_T26 l1_6 x59_2).f4) _ _ ((rd_T26 l1_6 x59_2).f5) _ _ ((rd_T26 l1_6 x59_2).f6) false _ ?side1 ?side2 ?side3 ?side4 ?side5 ?side6 ?side7 ?side8 A41.out).mono ?_
           (case side1 => repeat (first | exact (Kd.C_below HR219_5.out HB.out) | (with_reducible refine Kd.C_alloc ?_ _) | (with_reducible refine Kd.C_drewN ?_ _) | (with_reducible refine Kd.C_drew ?_)))
           (case side2 => exact HC219_5.out)
           (case side3 => repeat (first | exact (Kd.C_below HR219_6.out HB.out) | (with_reducible refine Kd.C_alloc ?_ _) | (with_reducible refine Kd.C_drewN ?_ _) | (with_reducible refine Kd.C_drew ?_)))
           (case side4 => exact HC219_6.out)
           (case side5 => repeat (first | exact (Kd.C_below HR220_5.out HB.out) | (with_reducible refine Kd.C_alloc ?_ _) | (with_reducible refine Kd.C_drewN ?_ _) | (with_reducible refine Kd.C_drew ?_)))
           (case side6 => exact HC220_5.out)
           (case side7 => repeat (first | exact (Kd.C_below HR220_6.out HB.out) | (with_reducible refine Kd.C_alloc ?_ _) | (with_reducible refine Kd.C_drewN ?_ _) | (with_reducible refine Kd.C_drew ?_)))
           (case side8 => exact HC220_6.out)
           rintro e w46 ⟨rfl, hb⟩
           refine ⟨_, rfl, ?_⟩
           have n0_ := Aside0.mk (blk_below (g := gb216) (o := .cells #[.int .i64 a0_0, .bool a0_1, .int .i64 a0_2, .int .u64 a0_3, .string a0_4, .slice A0_5 l0_5.length c0_5, .slice (some ad219) l0_6.length c0_6] 26 (0, 0)) (by (with_reducible repeat (first | refine blk_drewN ?_ _ | refine blk_drew ?_ | refine blk_alloc ?_ _)); exact BK216.out) hb)
           have n1_ := Aside0.mk (blk_below (g := gb217) (o := .cells #[.int .i64 a1_0, .bool a1_1, .int .i64 a1_2, .int .u64 a1_3, .string a1_4, .slice A1_5 l1_5.length c1_5, .slice (some ad220) l1_6.length c1_6] 26 (0, 0)) (by (with_reducible repeat (first | refine blk_drewN ?_ _ | refine blk_drew ?_ | refine blk_alloc ?_ _)); exact BK217.out) hb)
           have n2_ := Aside0.mk (below_step (by repeat (first | (with_reducible first | exact HB.out | apply below_alloc | apply pw_below_drewN | apply below_drew1 | refine below_set ?_ GE216.out | refine below_set ?_ GE217.out) | exact HB.out)) hb)
           clear BK216
           clear BK217
           clear HB
           have BK216 := n0_
           have BK217 := n1_
           have HB := n2_
           clear n0_ n1_ n2_
           (try clear hb)
           (try clear hb2)
           (try clear hk)
           (try clear hi)
           refine hK.out _ _ ⟨(blk_cell BK216.out 0).trans rfl, (blk_cell BK216.out 1).trans rfl, (blk_cell BK216.out 2).trans rfl, (blk_cell BK216.out 3).trans rfl, (blk_cell BK216.out 4).trans rfl, (blk_cell BK216.out 5).trans rfl, (blk_cell BK216.out 6).trans rfl, (blk_cell BK217.out 0).trans rfl, (blk_cell BK217.out 1).trans rfl, (blk_cell BK217.out 2).trans rfl, (blk_cell BK217.out 3).trans rfl, (blk_cell BK217.out 4).trans rfl, (blk_cell BK217.out 5).trans rfl, (blk_cell BK217.out 6).trans rfl, ((HB.out.cell (World.block_lt_of_cell? w _ hw219_0)).trans hw219_0), ((HB.out.cell (World.block_lt_of_cell? w _ hw219_1)).trans hw219_1), ((HB.out.cell (World.block_lt_of_cell? w _ hw219_2)).trans hw219_2), ((HB.out.cell (World.block_lt_of_cell? w _ hw219_3)).trans hw219_3), ((HB.out.cell (World.block_lt_of_cell? w _ hw219_4)).trans hw219_4), ((HB.out.cell (World.block_lt_of_cell? w _ hw219_5)).trans hw219_5), ((HB.out.cell (World.block_lt_of_cell? w _ hw219_6)).trans hw219_6), ((HB.out.cell (World.block_lt_of_cell? w _ hw220_0)).trans hw220_0), ((HB.out.cell (World.block_lt_of_cell? w _ hw220_1)).trans hw220_1), ((HB.out.cell (World.block_lt_of_cell? w _ hw220_2)).trans hw220_2), ((HB.out.cell (World.block_lt_of_cell? w _ hw220_3)).trans hw220_3), ((HB.out.cell (World.block_lt_of_cell? w _ hw220_4)).trans hw220_4), ((HB.out.cell (World.block_lt_of_cell? w _ hw220_5)).trans hw220_5), ((HB.out.cell (World.block_lt_of_cell? w _ hw220_6)).trans hw220_6)⟩ (fun hHeld => ?_)
           clear hK K
           refine norm_ (a' := ?_) ?_ ?_
           rotate_left
           ·show Act.put _ (some 72) _ = _
            simp only [Act.put, List.setIfInBounds_toArray, List.set_cons_zero, List.set_cons_succ, i64_w, i32_w]
            rfl
           refine pure_ (i := 11) (N := some 73) (v := ?_) (a' := ?_) #[true, true, true, true, true, true, true, true, true, true, true, true] rfl rfl (any_of HT_.out (by kernel_rfl)) (fun _ _ _ h => h) (Or.inl ⟨by rfl, ?_⟩) ?_ ?_
           rotate_left
           ·intro w'
            go_simp
            with_reducible rfl
           rotate_left
           ·simp only [Act.put, List.setIfInBounds_toArray, List.set_cons_zero, List.set_cons_succ, i64_w, i32_w]
            rfl
           refine done_ (done_of HT_.out (by kernel_rfl)) ?_
           try go_wp2
           go_ret
           exact ⟨by first | rfl | (simp [errW_none, errW_some] <;> rfl) | (simp [*, errW_none, errW_some] <;> rfl), by repeat (first | (with_reducible first | exact HB.out | apply below_alloc | apply pw_below_drewN | apply below_drew1 | refine below_set ?_ GE216.out | refine below_set ?_ GE217.out) | exact HB.out)⟩
         ·rw [if_neg c40] at H
          exact absurd H (by simp)
        ·rw [if_neg c39] at H
         exact absurd H (by simp)
       ·rw [if_neg c38] at H
        exact absurd H (by simp)
      ·rw [if_neg c37] at H
       have c37b0 : decide (x59_2 < (l0_6.length : Int)) = false := decide_eq_false c37
       clear c37
       obtain rfl := Option.some.inj H
       go_wp2
       go_ret
       exact ⟨by first | rfl | (simp [errW_none, errW_some] <;> rfl) | (simp [*, errW_none, errW_some] <;> rfl), by repeat (first | (with_reducible first | exact HB.out | apply below_alloc | apply pw_below_drewN | apply below_drew1 | refine below_set ?_ GE216.out | refine below_set ?_ GE217.out) | exact HB.out)⟩

end Go.Proofs.Ytjnookhdiolhgaa.PAll
