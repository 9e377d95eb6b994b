/- The Lean function of spec_packInt and its contract: the Go function comes to exactly what the Lean function answers (laid by the kit's print program). -/
import Derived.Test.YtjnookhdiolhgaaPAllx0
import Derived.Test.YtjnookhdiolhgaaPspecbytesOf
namespace Go.Proofs.Ytjnookhdiolhgaa.PAll
open Go.RowKit Go.Proofs.YtjnookhdiolhgaaW.PrintWords Go.Proofs.YtjnookhdiolhgaaW.PrintLast Go.Proofs.YtjnookhdiolhgaaW.PrintMore
attribute [local go_sem] max2_int min2_int max_two min_two max_three min_three max_four min_four   -- for this text's walks alone
set_option linter.unusedVariables false
set_option linter.unusedSimpArgs false


/-! ### spec_packInt: function 99 -/
mutual
def spec_packInt.j0 : Nat → Int → Bool → Option (ByteArray)
  | 0, _, _ => none
  | k + 1, x0, x3 => if x3 = true then (some (strOfNums (([(x0) % 256] : List Int)))) else (if x0 ≥ (-128) then (spec_packInt.j1 k x0 (decide (x0 ≤ 127))) else (spec_packInt.j1 k x0 false))
def spec_packInt.j1 : Nat → Int → Bool → Option (ByteArray)
  | 0, _, _ => none
  | k + 1, x0, x14 => if x14 = true then ((spec_bytesOf.f k (IntKind.u64.wrap (x0)) 1).bind fun t130 => (if 1 + t130.size ≤ 9223372036854775807 then (some ((⟨#[200]⟩ : ByteArray) ++ t130)) else (none))) else (if x0 ≥ (-32768) then (spec_packInt.j2 k x0 (decide (x0 ≤ 32767))) else (spec_packInt.j2 k x0 false))
def spec_packInt.j2 : Nat → Int → Bool → Option (ByteArray)
  | 0, _, _ => none
  | k + 1, x0, x25 => if x25 = true then ((spec_bytesOf.f k (IntKind.u64.wrap (x0)) 2).bind fun t131 => (if 1 + t131.size ≤ 9223372036854775807 then (some ((⟨#[201]⟩ : ByteArray) ++ t131)) else (none))) else (if x0 ≥ (-2147483648) then (spec_packInt.j3 k x0 (decide (x0 ≤ 2147483647))) else (spec_packInt.j3 k x0 false))
def spec_packInt.j3 : Nat → Int → Bool → Option (ByteArray)
  | 0, _, _ => none
  | k + 1, x0, x36 => if x36 = true then ((spec_bytesOf.f k (IntKind.u64.wrap (x0)) 4).bind fun t132 => (if 1 + t132.size ≤ 9223372036854775807 then (some ((⟨#[202]⟩ : ByteArray) ++ t132)) else (none))) else ((spec_bytesOf.f k (IntKind.u64.wrap (x0)) 8).bind fun t133 => (if 1 + t133.size ≤ 9223372036854775807 then (some ((⟨#[203]⟩ : ByteArray) ++ t133)) else (none)))
end
def spec_packInt.f (k : Nat) (a0 : Int) : Option (ByteArray) := if a0 ≥ (-16) then (spec_packInt.j0 k a0 (decide (a0 ≤ 127))) else (spec_packInt.j0 k a0 false)
theorem spec_packInt.mono_l : ∀ k, (∀ y0 y1, LeO (spec_packInt.j0 k y0 y1) (spec_packInt.j0 (k + 1) y0 y1)) ∧ (∀ y0 y1, LeO (spec_packInt.j1 k y0 y1) (spec_packInt.j1 (k + 1) y0 y1)) ∧ (∀ y0 y1, LeO (spec_packInt.j2 k y0 y1) (spec_packInt.j2 (k + 1) y0 y1)) ∧ (∀ y0 y1, LeO (spec_packInt.j3 k y0 y1) (spec_packInt.j3 (k + 1) y0 y1))
  | 0 => ⟨fun _ _ r h => by simp [spec_packInt.j0] at h, fun _ _ r h => by simp [spec_packInt.j1] at h, fun _ _ r h => by simp [spec_packInt.j2] at h, fun _ _ r h => by simp [spec_packInt.j3] at h⟩
  | k + 1 => by
    obtain ⟨ih0, ih1, ih2, ih3⟩ := spec_packInt.mono_l k
    refine ⟨?_, ?_, ?_, ?_⟩
    · intro y0 y1
      unfold spec_packInt.j0
      repeat' first
      | (with_reducible exact ih0 _ _)
      | (with_reducible exact ih1 _ _)
      | (with_reducible exact ih2 _ _)
      | (with_reducible exact ih3 _ _)
      | (with_reducible exact spec_bytesOf.mono _ _ _)
      | (with_reducible exact LeO.refl _)
      | (with_reducible exact LeO.none _)
      | (with_reducible refine LeO.ite ?_ ?_)
      | (with_reducible refine LeO.bind ?_ (fun _ => ?_))
      | exact ih0 _ _
      | exact ih1 _ _
      | exact ih2 _ _
      | exact ih3 _ _
      | exact spec_bytesOf.mono _ _ _
      | exact LeO.none _
      | refine LeO.ite ?_ ?_
      | refine LeO.bind ?_ (fun _ => ?_)
    · intro y0 y1
      unfold spec_packInt.j1
      repeat' first
      | (with_reducible exact ih0 _ _)
      | (with_reducible exact ih1 _ _)
      | (with_reducible exact ih2 _ _)
      | (with_reducible exact ih3 _ _)
      | (with_reducible exact spec_bytesOf.mono _ _ _)
      | (with_reducible exact LeO.refl _)
      | (with_reducible exact LeO.none _)
      | (with_reducible refine LeO.ite ?_ ?_)
      | (with_reducible refine LeO.bind ?_ (fun _ => ?_))
      | exact ih0 _ _
      | exact ih1 _ _
      | exact ih2 _ _
      | exact ih3 _ _
      | exact spec_bytesOf.mono _ _ _
      | exact LeO.none _
      | refine LeO.ite ?_ ?_
      | refine LeO.bind ?_ (fun _ => ?_)
    · intro y0 y1
      unfold spec_packInt.j2
      repeat' first
      | (with_reducible exact ih0 _ _)
      | (with_reducible exact ih1 _ _)
      | (with_reducible exact ih2 _ _)
      | (with_reducible exact ih3 _ _)
      | (with_reducible exact spec_bytesOf.mono _ _ _)
      | (with_reducible exact LeO.refl _)
      | (with_reducible exact LeO.none _)
      | (with_reducible refine LeO.ite ?_ ?_)
      | (with_reducible refine LeO.bind ?_ (fun _ => ?_))
      | exact ih0 _ _
      | exact ih1 _ _
      | exact ih2 _ _
      | exact ih3 _ _
      | exact spec_bytesOf.mono _ _ _
      | exact LeO.none _
      | refine LeO.ite ?_ ?_
      | refine LeO.bind ?_ (fun _ => ?_)
    · intro y0 y1
      unfold spec_packInt.j3
      repeat' first
      | (with_reducible exact ih0 _ _)
      | (with_reducible exact ih1 _ _)
      | (with_reducible exact ih2 _ _)
      | (with_reducible exact ih3 _ _)
      | (with_reducible exact spec_bytesOf.mono _ _ _)
      | (with_reducible exact LeO.refl _)
      | (with_reducible exact LeO.none _)
      | (with_reducible refine LeO.ite ?_ ?_)
      | (with_reducible refine LeO.bind ?_ (fun _ => ?_))
      | exact ih0 _ _
      | exact ih1 _ _
      | exact ih2 _ _
      | exact ih3 _ _
      | exact spec_bytesOf.mono _ _ _
      | exact LeO.none _
      | refine LeO.ite ?_ ?_
      | refine LeO.bind ?_ (fun _ => ?_)
theorem spec_packInt.mono : ∀ a0 k, LeO (spec_packInt.f k a0) (spec_packInt.f (k + 1) a0) := by
  intro a0 k
  obtain ⟨ih0, ih1, ih2, ih3⟩ := spec_packInt.mono_l k
  unfold spec_packInt.f
  repeat' first
      | (with_reducible exact ih0 _ _)
      | (with_reducible exact ih1 _ _)
      | (with_reducible exact ih2 _ _)
      | (with_reducible exact ih3 _ _)
      | (with_reducible exact spec_bytesOf.mono _ _ _)
      | (with_reducible exact LeO.refl _)
      | (with_reducible exact LeO.none _)
      | (with_reducible refine LeO.ite ?_ ?_)
      | (with_reducible refine LeO.bind ?_ (fun _ => ?_))
      | exact ih0 _ _
      | exact ih1 _ _
      | exact ih2 _ _
      | exact ih3 _ _
      | exact spec_bytesOf.mono _ _ _
      | exact LeO.none _
      | refine LeO.ite ?_ ?_
      | refine LeO.bind ?_ (fun _ => ?_)
set_option maxHeartbeats 8000000 in
set_option maxRecDepth 100000 in
theorem spec_packInt.calls (k : Nat) (a0 : Int) (r : ByteArray) (w : World) (h : spec_packInt.f k a0 = some r) :
    Calls Try.prog 99 #[.int .i64 a0] w fun e w' => e = .returned (.string r) ∧ Below w.heap.size w w' := by
  have HB := Aside0.mk (Below.refl w.heap.size w)
  have H : (if a0 ≥ (-16) then (spec_packInt.j0 k a0 (decide (a0 ≤ 127))) else (spec_packInt.j0 k a0 false)) = some r := h
  clear h
  have HC2 := Aside0.mk H
  clear H
  go_enter Try.func99, Try.ntmps99
  go_upto_region 1 with (fail)
  go_cut [3] (fun v3 wc => ∃ (kq : Nat) (x3_1 : Bool), v3 = .bool x3_1 ∧ Aside0 (spec_packInt.j0 kq a0 x3_1 = some r) ∧ Aside0 (kq ≤ k) ∧ Aside0 (Below w.heap.size w wc))
  case first =>
    have H := HC2.out
    clear HC2
    by_cases c3 : a0 ≥ (-16)
    · rw [if_pos c3] at H
      have c3b0 : decide ((-16) ≤ a0) = true := decide_eq_true c3
      clear c3
      (first | rw [c3b0] | (simp only [i64_w, i32_w]; rw [c3b0]) | skip)
      have H' := Aside0.mk H
      clear H
      go_wp2
      go_meet
      case rel => exact ⟨_, (decide (a0 ≤ 127)), (by first | rfl | (simp; done) | (simp [*]; done)), H', ⟨by first | omega | exact Nat.le_refl _⟩, ⟨by repeat (first | (with_reducible first | exact HB.out | apply below_alloc | apply pw_below_drewN | apply below_drew1) | exact HB.out)⟩⟩
    · rw [if_neg c3] at H
      have c3b0 : decide ((-16) ≤ a0) = false := decide_eq_false c3
      clear c3
      (first | rw [c3b0] | (simp only [i64_w, i32_w]; rw [c3b0]) | skip)
      have H' := Aside0.mk H
      clear H
      go_wp2
      go_meet
      case rel => exact ⟨_, (false), (by first | rfl | (simp; done) | (simp [*]; done)), H', ⟨by first | omega | exact Nat.le_refl _⟩, ⟨by repeat (first | (with_reducible first | exact HB.out | apply below_alloc | apply pw_below_drewN | apply below_drew1) | exact HB.out)⟩⟩
  case rest =>
    clear HC2
    try clear p2
    try clear c3
    try clear c3b0
    obtain ⟨kq, x3_1, rfl, HA, HJ1, HB⟩ := hcut
    cases kq with
    | zero => exact absurd HA.out (by simp [spec_packInt.j0])
    | succ kj1 =>
      have H := HA.out
      clear HA
      simp only [spec_packInt.j0] at H
      by_cases c4 : x3_1 = true
      · subst c4
        have H1 : (some (strOfNums (([(a0) % 256] : List Int)))) = some r := by rw [if_pos rfl] at H; exact H
        clear H
        have H := H1
        clear H1
        obtain ⟨y127, hy127⟩ : ∃ y_ : List Int, y_ = (([(a0) % 256] : List Int)) := ⟨_, rfl⟩
        replace H : (some (strOfNums y127)) = some r := by first | (rw [hy127]; with_reducible exact H) | (have H2_ := (Option.bind_some _ _).symm.trans H; rw [hy127]; with_reducible exact H2_) | (have H2_ := (Option.bind_some _ _).symm.trans H; with_reducible exact H2_) | with_reducible exact H | (rw [hy127]; exact H) | exact H
        have Ny127 := Aside0.mk hy127
        clear hy127
        obtain rfl := Option.some.inj H
        go_wp2_with (first | ((with_reducible refine gate_dst (N := 12) rfl ?_); refine Kd.R_lit (Kd.int .u8) _ 5 ?hg (N := 12) ?hd (xs := ([(a0) % 256] : List Int)) (inner := [.int .u8 ((a0) % 256)]) (ok := fun _ => True) (okp := fun _ => True) ?hr ?hp (fun _ hk => hk) trivial (Below.refl _ _) (Nat.le_refl _) (by simp) ?_; (case hd => rfl); (case hg => rfl); (case hr => first | (go_simp; done) | (go_simp; rfl)); (case hp => exact (Reps.one (show Kd.M (Kd.int .u8) _ _ _ ((a0) % 256) [.int .u8 ((a0) % 256)] from rfl) (Reps.none _ _))); intro v128 w5 ho6 hb hg_ hnew_; clear hg_ hnew_; (first | rw [← Ny127.out] at ho6 | (simp only [Int.reduceToNat] at ho6; rw [← Ny127.out] at ho6)); have n0_ := Aside0.mk (Kd.R_lower ho6 (below_size (by repeat (first | (with_reducible first | exact HB.out | apply below_alloc | apply pw_below_drewN | apply below_drew1) | exact HB.out)))); have n1_ := Aside0.mk (below_step (by repeat (first | (with_reducible first | exact HB.out | apply below_alloc | apply pw_below_drewN | apply below_drew1) | exact HB.out)) hb); clear HB; have HO129 := n0_; have HB := n1_; clear n0_ n1_; clear hb ho6; have hcv7 := own_string (P := Try.prog) Try.underlying69 Try.underlying5 Try.underlying9 (Kd.own_of_R HO129.out)))
        go_ret
        exact ⟨by first | rfl | (simp [errW_none, errW_some] <;> rfl) | (simp [*, errW_none, errW_some] <;> rfl), by repeat (first | (with_reducible first | exact HB.out | apply below_alloc | apply pw_below_drewN | apply below_drew1) | exact HB.out)⟩
      · replace c4 := Bool.eq_false_iff.mpr c4
        subst c4
        have H1 : (if a0 ≥ (-128) then (spec_packInt.j1 kj1 a0 (decide (a0 ≤ 127))) else (spec_packInt.j1 kj1 a0 false)) = some r := by rw [if_neg (show ¬ (false = true) by decide)] at H; exact H
        clear H
        have H := H1
        clear H1
        have HC8 := Aside0.mk H
        clear H
        go_upto_region 3 with (fail)
        go_cut [14] (fun v14 wc => ∃ (kq : Nat) (x14_7 : Bool), v14 = .bool x14_7 ∧ Aside0 (spec_packInt.j1 kq a0 x14_7 = some r) ∧ Aside0 (kq ≤ kj1) ∧ Aside0 (Below w.heap.size w wc))
        case first =>
          have H := HC8.out
          clear HC8
          by_cases c9 : a0 ≥ (-128)
          · rw [if_pos c9] at H
            have c9b0 : decide ((-128) ≤ a0) = true := decide_eq_true c9
            clear c9
            (first | rw [c9b0] | (simp only [i64_w, i32_w]; rw [c9b0]) | skip)
            have H' := Aside0.mk H
            clear H
            go_wp2
            go_meet
            case rel => exact ⟨_, (decide (a0 ≤ 127)), (by first | rfl | (simp; done) | (simp [*]; done)), H', ⟨by have := HJ1.out; first | omega | exact Nat.le_refl _⟩, ⟨by repeat (first | (with_reducible first | exact HB.out | apply below_alloc | apply pw_below_drewN | apply below_drew1) | exact HB.out)⟩⟩
          · rw [if_neg c9] at H
            have c9b0 : decide ((-128) ≤ a0) = false := decide_eq_false c9
            clear c9
            (first | rw [c9b0] | (simp only [i64_w, i32_w]; rw [c9b0]) | skip)
            have H' := Aside0.mk H
            clear H
            go_wp2
            go_meet
            case rel => exact ⟨_, (false), (by first | rfl | (simp; done) | (simp [*]; done)), H', ⟨by have := HJ1.out; first | omega | exact Nat.le_refl _⟩, ⟨by repeat (first | (with_reducible first | exact HB.out | apply below_alloc | apply pw_below_drewN | apply below_drew1) | exact HB.out)⟩⟩
        case rest =>
          clear HC8
          try clear p2
          try clear c3
          try clear c3b0
          try clear c4
          try clear hcv7
          try clear c9
          try clear c9b0
          try clear p2
          obtain ⟨kq, x14_7, rfl, HA, HJ7, HB⟩ := hcut
          cases kq with
          | zero => exact absurd HA.out (by simp [spec_packInt.j1])
          | succ kj7 =>
            have H := HA.out
            clear HA
            simp only [spec_packInt.j1] at H
            by_cases c10 : x14_7 = true
            · subst c10
              have H1 : ((spec_bytesOf.f kj7 (IntKind.u64.wrap (a0)) 1).bind fun t130 => (if 1 + t130.size ≤ 9223372036854775807 then (some ((⟨#[200]⟩ : ByteArray) ++ t130)) else (none))) = some r := by rw [if_pos rfl] at H; exact H
              clear H
              have H := H1
              clear H1
              replace H := Option.bind_eq_some_iff.mp H
              obtain ⟨t130, A110, H⟩ := H
              replace H : (if 1 + t130.size ≤ 9223372036854775807 then (some ((⟨#[200]⟩ : ByteArray) ++ t130)) else (none)) = some r := H
              have A11 := Aside0.mk A110
              clear A110
              by_cases c12 : 1 + t130.size ≤ 9223372036854775807
              · rw [if_pos c12] at H
                have c12b0 := eq_true c12
                have c12b1 : decide (1 + t130.size ≤ 9223372036854775807) = true := decide_eq_true c12
                try have c12b2 : (9223372036854775807 < 1 + t130.size) = False := eq_false (Nat.not_lt.2 c12)
                obtain rfl := Option.some.inj H
                go_wp2_with (first | ((with_reducible refine gate_callee (f := 126) rfl ?_); refine goesL_ (some 23) rfl rfl Try.func126 (by kernel_rfl) rfl #[.int .u64 (IntKind.u64.wrap (a0)), .int .i64 1] rfl (by (try simp only [List.map_toArray, List.map_cons, List.map_nil]); first | done | rfl | (simp only [List.length_drop, List.length_take]; rfl)) ?_; (with_reducible refine (spec_bytesOf.calls kj7 (IntKind.u64.wrap (a0)) 1 t130 _ A11.out).mono ?_); rintro e w13 ⟨rfl, hb⟩; refine ⟨_, rfl, ?_⟩; have n0_ := Aside0.mk (below_step (by repeat (first | (with_reducible first | exact HB.out | apply below_alloc | apply pw_below_drewN | apply below_drew1) | exact HB.out)) hb); clear HB; have HB := n0_; clear n0_; (try clear hb); (try clear hb2); (try clear hk); (try clear hi)))
                go_ret
                exact ⟨by first | rfl | (simp [errW_none, errW_some] <;> rfl) | (simp [*, errW_none, errW_some] <;> rfl), by repeat (first | (with_reducible first | exact HB.out | apply below_alloc | apply pw_below_drewN | apply below_drew1) | exact HB.out)⟩
              · rw [if_neg c12] at H
                exact absurd H (by simp)
            · replace c10 := Bool.eq_false_iff.mpr c10
              subst c10
              have H1 : (if a0 ≥ (-32768) then (spec_packInt.j2 kj7 a0 (decide (a0 ≤ 32767))) else (spec_packInt.j2 kj7 a0 false)) = some r := by rw [if_neg (show ¬ (false = true) by decide)] at H; exact H
              clear H
              have H := H1
              clear H1
              have HC14 := Aside0.mk H
              clear H
              go_upto_region 5 with (fail)
              go_cut [25] (fun v25 wc => ∃ (kq : Nat) (x25_13 : Bool), v25 = .bool x25_13 ∧ Aside0 (spec_packInt.j2 kq a0 x25_13 = some r) ∧ Aside0 (kq ≤ kj7) ∧ Aside0 (Below w.heap.size w wc))
              case first =>
                have H := HC14.out
                clear HC14
                by_cases c15 : a0 ≥ (-32768)
                · rw [if_pos c15] at H
                  have c15b0 : decide ((-32768) ≤ a0) = true := decide_eq_true c15
                  clear c15
                  (first | rw [c15b0] | (simp only [i64_w, i32_w]; rw [c15b0]) | skip)
                  have H' := Aside0.mk H
                  clear H
                  go_wp2
                  go_meet
                  case rel => exact ⟨_, (decide (a0 ≤ 32767)), (by first | rfl | (simp; done) | (simp [*]; done)), H', ⟨by have := HJ1.out; have := HJ7.out; first | omega | exact Nat.le_refl _⟩, ⟨by repeat (first | (with_reducible first | exact HB.out | apply below_alloc | apply pw_below_drewN | apply below_drew1) | exact HB.out)⟩⟩
                · rw [if_neg c15] at H
                  have c15b0 : decide ((-32768) ≤ a0) = false := decide_eq_false c15
                  clear c15
                  (first | rw [c15b0] | (simp only [i64_w, i32_w]; rw [c15b0]) | skip)
                  have H' := Aside0.mk H
                  clear H
                  go_wp2
                  go_meet
                  case rel => exact ⟨_, (false), (by first | rfl | (simp; done) | (simp [*]; done)), H', ⟨by have := HJ1.out; have := HJ7.out; first | omega | exact Nat.le_refl _⟩, ⟨by repeat (first | (with_reducible first | exact HB.out | apply below_alloc | apply pw_below_drewN | apply below_drew1) | exact HB.out)⟩⟩
              case rest =>
                clear HC14
                try clear c1
                try clear p2
                try clear c3
                try clear c3b0
                try clear c4
                try clear hcv7
                try clear c9
                try clear c9b0
                try clear c10
                try clear c12
                try clear c12b0
                try clear c12b1
                try clear c12b2
                try clear c15
                try clear c15b0
                try clear p2
                obtain ⟨kq, x25_13, rfl, HA, HJ13, HB⟩ := hcut
                cases kq with
                | zero => exact absurd HA.out (by simp [spec_packInt.j2])
                | succ kj13 =>
                  have H := HA.out
                  clear HA
                  simp only [spec_packInt.j2] at H
                  by_cases c16 : x25_13 = true
                  · subst c16
                    have H1 : ((spec_bytesOf.f kj13 (IntKind.u64.wrap (a0)) 2).bind fun t131 => (if 1 + t131.size ≤ 9223372036854775807 then (some ((⟨#[201]⟩ : ByteArray) ++ t131)) else (none))) = some r := by rw [if_pos rfl] at H; exact H
                    clear H
                    have H := H1
                    clear H1
                    replace H := Option.bind_eq_some_iff.mp H
                    obtain ⟨t131, A170, H⟩ := H
                    replace H : (if 1 + t131.size ≤ 9223372036854775807 then (some ((⟨#[201]⟩ : ByteArray) ++ t131)) else (none)) = some r := H
                    have A17 := Aside0.mk A170
                    clear A170
                    by_cases c18 : 1 + t131.size ≤ 9223372036854775807
                    · rw [if_pos c18] at H
                      have c18b0 := eq_true c18
                      have c18b1 : decide (1 + t131.size ≤ 9223372036854775807) = true := decide_eq_true c18
                      try have c18b2 : (9223372036854775807 < 1 + t131.size) = False := eq_false (Nat.not_lt.2 c18)
                      obtain rfl := Option.some.inj H
                      go_wp2_with (first | ((with_reducible refine gate_callee (f := 126) rfl ?_); refine goesL_ (some 34) rfl rfl Try.func126 (by kernel_rfl) rfl #[.int .u64 (IntKind.u64.wrap (a0)), .int .i64 2] rfl (by (try simp only [List.map_toArray, List.map_cons, List.map_nil]); first | done | rfl | (simp only [List.length_drop, List.length_take]; rfl)) ?_; (with_reducible refine (spec_bytesOf.calls kj13 (IntKind.u64.wrap (a0)) 2 t131 _ A17.out).mono ?_); rintro e w19 ⟨rfl, hb⟩; refine ⟨_, rfl, ?_⟩; have n0_ := Aside0.mk (below_step (by repeat (first | (with_reducible first | exact HB.out | apply below_alloc | apply pw_below_drewN | apply below_drew1) | exact HB.out)) hb); clear HB; have HB := n0_; clear n0_; (try clear hb); (try clear hb2); (try clear hk); (try clear hi)))
                      go_ret
                      exact ⟨by first | rfl | (simp [errW_none, errW_some] <;> rfl) | (simp [*, errW_none, errW_some] <;> rfl), by repeat (first | (with_reducible first | exact HB.out | apply below_alloc | apply pw_below_drewN | apply below_drew1) | exact HB.out)⟩
                    · rw [if_neg c18] at H
                      exact absurd H (by simp)
                  · replace c16 := Bool.eq_false_iff.mpr c16
                    subst c16
                    have H1 : (if a0 ≥ (-2147483648) then (spec_packInt.j3 kj13 a0 (decide (a0 ≤ 2147483647))) else (spec_packInt.j3 kj13 a0 false)) = some r := by rw [if_neg (show ¬ (false = true) by decide)] at H; exact H
                    clear H
                    have H := H1
                    clear H1
                    have HC20 := Aside0.mk H
                    clear H
                    go_upto_region 7 with (fail)
                    go_cut [36] (fun v36 wc => ∃ (kq : Nat) (x36_19 : Bool), v36 = .bool x36_19 ∧ Aside0 (spec_packInt.j3 kq a0 x36_19 = some r) ∧ Aside0 (kq ≤ kj13) ∧ Aside0 (Below w.heap.size w wc))
                    case first =>
                      have H := HC20.out
                      clear HC20
                      by_cases c21 : a0 ≥ (-2147483648)
                      · rw [if_pos c21] at H
                        have c21b0 : decide ((-2147483648) ≤ a0) = true := decide_eq_true c21
                        clear c21
                        (first | rw [c21b0] | (simp only [i64_w, i32_w]; rw [c21b0]) | skip)
                        have H' := Aside0.mk H
                        clear H
                        go_wp2
                        go_meet
                        case rel => exact ⟨_, (decide (a0 ≤ 2147483647)), (by first | rfl | (simp; done) | (simp [*]; done)), H', ⟨by have := HJ1.out; have := HJ7.out; have := HJ13.out; first | omega | exact Nat.le_refl _⟩, ⟨by repeat (first | (with_reducible first | exact HB.out | apply below_alloc | apply pw_below_drewN | apply below_drew1) | exact HB.out)⟩⟩
                      · rw [if_neg c21] at H
                        have c21b0 : decide ((-2147483648) ≤ a0) = false := decide_eq_false c21
                        clear c21
                        (first | rw [c21b0] | (simp only [i64_w, i32_w]; rw [c21b0]) | skip)
                        have H' := Aside0.mk H
                        clear H
                        go_wp2
                        go_meet
                        case rel => exact ⟨_, (false), (by first | rfl | (simp; done) | (simp [*]; done)), H', ⟨by have := HJ1.out; have := HJ7.out; have := HJ13.out; first | omega | exact Nat.le_refl _⟩, ⟨by repeat (first | (with_reducible first | exact HB.out | apply below_alloc | apply pw_below_drewN | apply below_drew1) | exact HB.out)⟩⟩
                    case rest =>
                      clear HC20
                      try clear c1
                      try clear c2
                      try clear p2
                      try clear c3
                      try clear c3b0
                      try clear c4
                      try clear hcv7
                      try clear c9
                      try clear c9b0
                      try clear c10
                      try clear c12
                      try clear c12b0
                      try clear c12b1
                      try clear c12b2
                      try clear c15
                      try clear c15b0
                      try clear c16
                      try clear c18
                      try clear c18b0
                      try clear c18b1
                      try clear c18b2
                      try clear c21
                      try clear c21b0
                      try clear p2
                      obtain ⟨kq, x36_19, rfl, HA, HJ19, HB⟩ := hcut
                      cases kq with
                      | zero => exact absurd HA.out (by simp [spec_packInt.j3])
                      | succ kj19 =>
                        have H := HA.out
                        clear HA
                        simp only [spec_packInt.j3] at H
                        by_cases c22 : x36_19 = true
                        · subst c22
                          have H1 : ((spec_bytesOf.f kj19 (IntKind.u64.wrap (a0)) 4).bind fun t132 => (if 1 + t132.size ≤ 9223372036854775807 then (some ((⟨#[202]⟩ : ByteArray) ++ t132)) else (none))) = some r := by rw [if_pos rfl] at H; exact H
                          clear H
                          have H := H1
                          clear H1
                          replace H := Option.bind_eq_some_iff.mp H
                          obtain ⟨t132, A230, H⟩ := H
                          replace H : (if 1 + t132.size ≤ 9223372036854775807 then (some ((⟨#[202]⟩ : ByteArray) ++ t132)) else (none)) = some r := H
                          have A23 := Aside0.mk A230
                          clear A230
                          by_cases c24 : 1 + t132.size ≤ 9223372036854775807
                          · rw [if_pos c24] at H
                            have c24b0 := eq_true c24
                            have c24b1 : decide (1 + t132.size ≤ 9223372036854775807) = true := decide_eq_true c24
                            try have c24b2 : (9223372036854775807 < 1 + t132.size) = False := eq_false (Nat.not_lt.2 c24)
                            obtain rfl := Option.some.inj H
                            go_wp2_with (first | ((with_reducible refine gate_callee (f := 126) rfl ?_); refine goesL_ (some 45) rfl rfl Try.func126 (by kernel_rfl) rfl #[.int .u64 (IntKind.u64.wrap (a0)), .int .i64 4] rfl (by (try simp only [List.map_toArray, List.map_cons, List.map_nil]); first | done | rfl | (simp only [List.length_drop, List.length_take]; rfl)) ?_; (with_reducible refine (spec_bytesOf.calls kj19 (IntKind.u64.wrap (a0)) 4 t132 _ A23.out).mono ?_); rintro e w25 ⟨rfl, hb⟩; refine ⟨_, rfl, ?_⟩; have n0_ := Aside0.mk (below_step (by repeat (first | (with_reducible first | exact HB.out | apply below_alloc | apply pw_below_drewN | apply below_drew1) | exact HB.out)) hb); clear HB; have HB := n0_; clear n0_; (try clear hb); (try clear hb2); (try clear hk); (try clear hi)))
                            go_ret
                            exact ⟨by first | rfl | (simp [errW_none, errW_some] <;> rfl) | (simp [*, errW_none, errW_some] <;> rfl), by repeat (first | (with_reducible first | exact HB.out | apply below_alloc | apply pw_below_drewN | apply below_drew1) | exact HB.out)⟩
                          · rw [if_neg c24] at H
                            exact absurd H (by simp)
                        · replace c22 := Bool.eq_false_iff.mpr c22
                          subst c22
                          have H1 : ((spec_bytesOf.f kj19 (IntKind.u64.wrap (a0)) 8).bind fun t133 => (if 1 + t133.size ≤ 9223372036854775807 then (some ((⟨#[203]⟩ : ByteArray) ++ t133)) else (none))) = some r := by rw [if_neg (show ¬ (false = true) by decide)] at H; exact H
                          clear H
                          have H := H1
                          clear H1
                          replace H := Option.bind_eq_some_iff.mp H
                          obtain ⟨t133, A260, H⟩ := H
                          replace H : (if 1 + t133.size ≤ 9223372036854775807 then (some ((⟨#[203]⟩ : ByteArray) ++ t133)) else (none)) = some r := H
                          have A26 := Aside0.mk A260
                          clear A260
                          by_cases c27 : 1 + t133.size ≤ 9223372036854775807
                          · rw [if_pos c27] at H
                            have c27b0 := eq_true c27
                            have c27b1 : decide (1 + t133.size ≤ 9223372036854775807) = true := decide_eq_true c27
                            try have c27b2 : (9223372036854775807 < 1 + t133.size) = False := eq_false (Nat.not_lt.2 c27)
                            obtain rfl := Option.some.inj H
                            go_wp2_with (first | ((with_reducible refine gate_callee (f := 126) rfl ?_); refine goesL_ (some 49) rfl rfl Try.func126 (by kernel_rfl) rfl #[.int .u64 (IntKind.u64.wrap (a0)), .int .i64 8] rfl (by (try simp only [List.map_toArray, List.map_cons, List.map_nil]); first | done | rfl | (simp only [List.length_drop, List.length_take]; rfl)) ?_; (with_reducible refine (spec_bytesOf.calls kj19 (IntKind.u64.wrap (a0)) 8 t133 _ A26.out).mono ?_); rintro e w28 ⟨rfl, hb⟩; refine ⟨_, rfl, ?_⟩; have n0_ := Aside0.mk (below_step (by repeat (first | (with_reducible first | exact HB.out | apply below_alloc | apply pw_below_drewN | apply below_drew1) | exact HB.out)) hb); clear HB; have HB := n0_; clear n0_; (try clear hb); (try clear hb2); (try clear hk); (try clear hi)))
                            go_ret
                            exact ⟨by first | rfl | (simp [errW_none, errW_some] <;> rfl) | (simp [*, errW_none, errW_some] <;> rfl), by repeat (first | (with_reducible first | exact HB.out | apply below_alloc | apply pw_below_drewN | apply below_drew1) | exact HB.out)⟩
                          · rw [if_neg c27] at H
                            exact absurd H (by simp)

end Go.Proofs.Ytjnookhdiolhgaa.PAll
