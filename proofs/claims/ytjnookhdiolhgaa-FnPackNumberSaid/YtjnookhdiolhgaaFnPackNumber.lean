/- FnPackNumber: the walk. -/
import Derived.Test.YtjnookhdiolhgaaNum
import Derived.Test.YtjnookhdiolhgaaUp
import Derived.Test.YtjnookhdiolhgaaRd
import Derived.Test.YtjnookhdiolhgaaSame
import Derived.Deep.RegionHeld3
import Derived.OpenShut
namespace Go.Proofs.Ytjnookhdiolhgaa
set_option linter.unusedVariables false
set_option linter.unusedSimpArgs false
open Go.RowKit Go.Proofs.YtjnookhdiolhgaaW.PrintWords
open PAll (S26 k26)

/-- A number as a value. -/
def numV (n : Int) : S26 := ⟨2, false, n, 0, ⟨#[]⟩, [], []⟩
theorem numV_ok (n : Int) : okV (numV n) :=
  ⟨⟨by decide, by decide, Nat.zero_le _, fun _ => rfl, fun h => absurd rfl h, fun _ => rfl, fun _ _ => rfl, fun _ => rfl, fun _ => rfl, fun h => absurd h (by decide), fun h => absurd h (by decide), fun t h => by cases h⟩, trivial⟩
theorem numV_wf (n : Int) (h0 : -9223372036854775808 ≤ n) (h1 : n < 9223372036854775808) : wfV (numV n) := ⟨⟨h0, h1, by decide, by decide⟩, trivial⟩
theorem numV_nodes (n : Int) : nodes (numV n) = 1 := by simp [numV, nodes, nodesAll]
theorem numV_enc (n : Int) : enc (numV n) = encInt n := by simp [numV, enc, encTop, encKids]
theorem num_pack (n : Int) (w : World) (h0 : -9223372036854775808 ≤ n) (h1 : n < 9223372036854775808) :
    Calls Try.prog 17 #[.agg #[.int .i64 2, .bool false, .int .i64 n, .int .u64 0, .string ⟨#[]⟩, .slice none 0 0, .slice none 0 0]] w fun e w' => e = .returned (.tuple #[.string (strOfNums (encInt n)), .int .i64 0]) ∧ Below w.heap.size w w' := by
  have h := Pack_any (numV n) none 0 none 0 w (numV_ok n) (numV_wf n h0 h1) (by rw [numV_nodes]; omega) (Nat.le_refl _) (Nat.le_refl _) (C_none _ _) (C_none _ _)
  rw [numV_enc] at h
  exact h
theorem num_unpack (n : Int) (w : World) (h0 : -9223372036854775808 ≤ n) (h1 : n < 9223372036854775808) :
    Calls Try.prog 29 #[.string (strOfNums (encInt n))] w fun e w' => Below w.heap.size w w' ∧ ∃ A5 c5 A6 c6, e = .returned (.tuple #[.agg #[.int .i64 2, .bool false, .int .i64 n, .int .u64 0, .string ⟨#[]⟩, .slice A5 0 c5, .slice A6 0 c6], .int .i64 0, .int .i64 0]) ∧
      Kd.C Kd.string w' A5 0 [] ∧ Kd.C k26 w' A6 0 [] := by
  have hp := parse_str (numV n) (numV_ok n) (numV_wf n h0 h1) (by rw [numV_nodes]; omega)
  rw [numV_enc] at hp
  have hs : (strOfNums (encInt n)).size ≤ 9 := by
    rw [show (strOfNums (encInt n)).size = (encInt n).length by unfold strOfNums; show (List.map _ (encInt n)).toArray.size = _; simp]
    unfold encInt
    repeat' split
    all_goals simp
  have hU := Unpack_any 1002 (strOfNums (encInt n)) w (by omega) (by rw [hp]; exact fun h => by cases h)
  rw [hp] at hU
  refine hU.mono ?_
  rintro e w' ⟨hb, v5, v6, rfl, hr5, hr6⟩
  obtain ⟨A5, c5, rfl⟩ := Kd.R_slice hr5
  obtain ⟨A6, c6, rfl⟩ := Kd.R_slice hr6
  exact ⟨hb, A5, c5, A6, c6, rfl, (Kd.R_reads' hr5).2.2, (Kd.R_reads' hr6).2.2⟩
theorem num_same (n : Int) (w : World) (A5 : Option Addr) (c5 : Nat) (A6 : Option Addr) (c6 : Nat) (h5 : Kd.C Kd.string w A5 0 []) (h6 : Kd.C k26 w A6 0 []) :
    Calls Try.prog 32 #[.agg #[.int .i64 2, .bool false, .int .i64 n, .int .u64 0, .string ⟨#[]⟩, .slice A5 0 c5, .slice A6 0 c6], .agg #[.int .i64 2, .bool false, .int .i64 n, .int .u64 0, .string ⟨#[]⟩, .slice none 0 0, .slice none 0 0]] w
      fun e w' => e = .returned (.bool true) ∧ Below w.heap.size w w' :=
  same_any (numV n) (numV_ok n) (by rw [numV_nodes]; omega) A5 c5 A6 c6 none 0 none 0 w h5 (Nat.zero_le _) h6 (Nat.zero_le _) (C_none _ _) (Nat.le_refl _) (C_none _ _) (Nat.le_refl _)

set_option maxHeartbeats 2000000 in
set_option maxRecDepth 100000 in
theorem fnum0 (way n : Int) (w : World) (hk : way % 9 = 0) (hw0 : 0 ≤ way) (hw1 : way ≤ 255) (h0 : -9223372036854775808 ≤ n) (h1 : n ≤ 9223372036854775807) :
    Calls Try.prog 14 #[.int .u8 way, .int .i64 n] w fun e w' => e = .returned (.bool true) ∧ Below w.heap.size w w' := by
  have HP := Aside0.mk (fun (wi : World) => num_pack n wi h0 (by omega))
  have HU := Aside0.mk (fun (wi : World) => num_unpack n wi h0 (by omega))
  have HN := Aside0.mk (fun (wi : World) (h0 : -9223372036854775808 ≤ n) (h1 : n ≤ 9223372036854775807) => number0 n wi h0 h1)
  have HN2 := Aside0.mk (fun (wi : World) (h0 : -9223372036854775808 ≤ n) (h1 : n ≤ 9223372036854775807) => number0 n wi h0 h1)
  have hz : (strOfNums (encInt n)).size ≤ 9 := by
    rw [show (strOfNums (encInt n)).size = (encInt n).length by unfold strOfNums; show (List.map _ (encInt n)).toArray.size = _; simp]
    unfold encInt
    repeat' split
    all_goals simp
  generalize strOfNums (encInt n) = sx at *
  have HS := Aside0.mk (fun (wi : World) A5 c5 A6 c6 h5 h6 => num_same n wi A5 c5 A6 c6 h5 h6)
  have hk2 : way.tmod 9 = 0 := by rw [Int.tmod_eq_emod_of_nonneg hw0]; exact hk
  go_enter Try.func14, Try.ntmps14
  by_cases hlo : n < -9223372036854775808
  · exfalso; omega
  by_cases hhi : n > 9223372036854775807
  · exfalso; omega
  go_wp2_with fail
  first | (with_reducible refine (HN.out _ (by omega) (by omega)).mono ?_) | (with_reducible refine (HN2.out _ (by omega) (by omega)).mono ?_)
  rintro e w1 ⟨rfl, hb⟩
  have HB := Aside0.mk ((below_alloc (Below.refl w.heap.size w) _).trans (hb.mono (by rw [World.size_alloc]; omega)))
  clear hb HN HN2
  go_wp2_with fail
  refine (HP.out _).mono ?_
  rintro e w2 ⟨rfl, hb⟩
  have HB2 := Aside0.mk (HB.out.trans (hb.mono HB.out.size))
  clear hb HB HP
  go_wp2_with fail
  refine (HU.out _).mono ?_
  rintro e w3 ⟨hb, A5, c5, A6, c6, rfl, h5, h6⟩
  have HB3 := Aside0.mk (HB2.out.trans (hb.mono HB2.out.size))
  have HC := Aside0.mk (And.intro h5 h6)
  clear hb HB2 HU h5 h6
  go_wp2_with fail
  refine (HS.out _ A5 c5 A6 c6 (Kd.C_below HC.out.1 (below_alloc (Below.refl _ _) _)) (Kd.C_below HC.out.2 (below_alloc (Below.refl _ _) _))).mono ?_
  rintro e w4 ⟨rfl, hb⟩
  have HB4 := Aside0.mk (HB3.out.trans (((below_alloc (Below.refl w3.heap.size w3) _).trans (hb.mono (by rw [World.size_alloc]; omega))).mono HB3.out.size))
  clear hb HB3 HC HS
  go_wp2_with fail
  refine (alive_any _).mono ?_
  rintro e w6 ⟨rfl, hb⟩
  have HB6 := Aside0.mk (HB4.out.trans (hb.mono HB4.out.size))
  clear hb HB4
  go_wp2_with fail
  go_ret
  exact ⟨rfl, HB6.out⟩

set_option maxHeartbeats 2000000 in
set_option maxRecDepth 100000 in
theorem fnum1 (way n : Int) (w : World) (hk : way % 9 = 1) (hw0 : 0 ≤ way) (hw1 : way ≤ 255) (h0 : -9223372036854775808 ≤ n) (h1 : n ≤ 9223372036854775807) :
    Calls Try.prog 14 #[.int .u8 way, .int .i64 n] w fun e w' => e = .returned (.bool true) ∧ Below w.heap.size w w' := by
  have HP := Aside0.mk (fun (wi : World) => num_pack n wi h0 (by omega))
  have HU := Aside0.mk (fun (wi : World) => num_unpack n wi h0 (by omega))
  have HN := Aside0.mk (fun (wi : World) (h0 : -128 ≤ n) (h1 : n ≤ 127) => number1 n wi h0 h1)
  have HN2 := Aside0.mk (fun (wi : World) (h0 : -128 ≤ n) (h1 : n ≤ 127) => number1 n wi h0 h1)
  have hz : (strOfNums (encInt n)).size ≤ 9 := by
    rw [show (strOfNums (encInt n)).size = (encInt n).length by unfold strOfNums; show (List.map _ (encInt n)).toArray.size = _; simp]
    unfold encInt
    repeat' split
    all_goals simp
  generalize strOfNums (encInt n) = sx at *
  have HS := Aside0.mk (fun (wi : World) A5 c5 A6 c6 h5 h6 => num_same n wi A5 c5 A6 c6 h5 h6)
  have hk2 : way.tmod 9 = 1 := by rw [Int.tmod_eq_emod_of_nonneg hw0]; exact hk
  go_enter Try.func14, Try.ntmps14
  by_cases hlo : n < -128
  · go_wp2_with fail
    go_ret
    exact ⟨rfl, below_alloc (Below.refl _ _) _⟩
  by_cases hhi : n > 127
  · go_wp2_with fail
    go_ret
    exact ⟨rfl, below_alloc (Below.refl _ _) _⟩
  go_wp2_with fail
  first | (with_reducible refine (HN.out _ (by omega) (by omega)).mono ?_) | (with_reducible refine (HN2.out _ (by omega) (by omega)).mono ?_)
  rintro e w1 ⟨rfl, hb⟩
  have HB := Aside0.mk ((below_alloc (Below.refl w.heap.size w) _).trans (hb.mono (by rw [World.size_alloc]; omega)))
  clear hb HN HN2
  go_wp2_with fail
  refine (HP.out _).mono ?_
  rintro e w2 ⟨rfl, hb⟩
  have HB2 := Aside0.mk (HB.out.trans (hb.mono HB.out.size))
  clear hb HB HP
  go_wp2_with fail
  refine (HU.out _).mono ?_
  rintro e w3 ⟨hb, A5, c5, A6, c6, rfl, h5, h6⟩
  have HB3 := Aside0.mk (HB2.out.trans (hb.mono HB2.out.size))
  have HC := Aside0.mk (And.intro h5 h6)
  clear hb HB2 HU h5 h6
  go_wp2_with fail
  refine (HS.out _ A5 c5 A6 c6 (Kd.C_below HC.out.1 (below_alloc (Below.refl _ _) _)) (Kd.C_below HC.out.2 (below_alloc (Below.refl _ _) _))).mono ?_
  rintro e w4 ⟨rfl, hb⟩
  have HB4 := Aside0.mk (HB3.out.trans (((below_alloc (Below.refl w3.heap.size w3) _).trans (hb.mono (by rw [World.size_alloc]; omega))).mono HB3.out.size))
  clear hb HB3 HC HS
  go_wp2_with fail
  refine (alive_any _).mono ?_
  rintro e w6 ⟨rfl, hb⟩
  have HB6 := Aside0.mk (HB4.out.trans (hb.mono HB4.out.size))
  clear hb HB4
  go_wp2_with fail
  go_ret
  exact ⟨rfl, HB6.out⟩

set_option maxHeartbeats 2000000 in
set_option maxRecDepth 100000 in
theorem fnum2 (way n : Int) (w : World) (hk : way % 9 = 2) (hw0 : 0 ≤ way) (hw1 : way ≤ 255) (h0 : -9223372036854775808 ≤ n) (h1 : n ≤ 9223372036854775807) :
    Calls Try.prog 14 #[.int .u8 way, .int .i64 n] w fun e w' => e = .returned (.bool true) ∧ Below w.heap.size w w' := by
  have HP := Aside0.mk (fun (wi : World) => num_pack n wi h0 (by omega))
  have HU := Aside0.mk (fun (wi : World) => num_unpack n wi h0 (by omega))
  have HN := Aside0.mk (fun (wi : World) (h0 : -32768 ≤ n) (h1 : n ≤ 32767) => number2 n wi h0 h1)
  have HN2 := Aside0.mk (fun (wi : World) (h0 : -32768 ≤ n) (h1 : n ≤ 32767) => number2 n wi h0 h1)
  have hz : (strOfNums (encInt n)).size ≤ 9 := by
    rw [show (strOfNums (encInt n)).size = (encInt n).length by unfold strOfNums; show (List.map _ (encInt n)).toArray.size = _; simp]
    unfold encInt
    repeat' split
    all_goals simp
  generalize strOfNums (encInt n) = sx at *
  have HS := Aside0.mk (fun (wi : World) A5 c5 A6 c6 h5 h6 => num_same n wi A5 c5 A6 c6 h5 h6)
  have hk2 : way.tmod 9 = 2 := by rw [Int.tmod_eq_emod_of_nonneg hw0]; exact hk
  go_enter Try.func14, Try.ntmps14
  by_cases hlo : n < -32768
  · go_wp2_with fail
    go_ret
    exact ⟨rfl, below_alloc (Below.refl _ _) _⟩
  by_cases hhi : n > 32767
  · go_wp2_with fail
    go_ret
    exact ⟨rfl, below_alloc (Below.refl _ _) _⟩
  go_wp2_with fail
  first | (with_reducible refine (HN.out _ (by omega) (by omega)).mono ?_) | (with_reducible refine (HN2.out _ (by omega) (by omega)).mono ?_)
  rintro e w1 ⟨rfl, hb⟩
  have HB := Aside0.mk ((below_alloc (Below.refl w.heap.size w) _).trans (hb.mono (by rw [World.size_alloc]; omega)))
  clear hb HN HN2
  go_wp2_with fail
  refine (HP.out _).mono ?_
  rintro e w2 ⟨rfl, hb⟩
  have HB2 := Aside0.mk (HB.out.trans (hb.mono HB.out.size))
  clear hb HB HP
  go_wp2_with fail
  refine (HU.out _).mono ?_
  rintro e w3 ⟨hb, A5, c5, A6, c6, rfl, h5, h6⟩
  have HB3 := Aside0.mk (HB2.out.trans (hb.mono HB2.out.size))
  have HC := Aside0.mk (And.intro h5 h6)
  clear hb HB2 HU h5 h6
  go_wp2_with fail
  refine (HS.out _ A5 c5 A6 c6 (Kd.C_below HC.out.1 (below_alloc (Below.refl _ _) _)) (Kd.C_below HC.out.2 (below_alloc (Below.refl _ _) _))).mono ?_
  rintro e w4 ⟨rfl, hb⟩
  have HB4 := Aside0.mk (HB3.out.trans (((below_alloc (Below.refl w3.heap.size w3) _).trans (hb.mono (by rw [World.size_alloc]; omega))).mono HB3.out.size))
  clear hb HB3 HC HS
  go_wp2_with fail
  refine (alive_any _).mono ?_
  rintro e w6 ⟨rfl, hb⟩
  have HB6 := Aside0.mk (HB4.out.trans (hb.mono HB4.out.size))
  clear hb HB4
  go_wp2_with fail
  go_ret
  exact ⟨rfl, HB6.out⟩

set_option maxHeartbeats 2000000 in
set_option maxRecDepth 100000 in
theorem fnum3 (way n : Int) (w : World) (hk : way % 9 = 3) (hw0 : 0 ≤ way) (hw1 : way ≤ 255) (h0 : -9223372036854775808 ≤ n) (h1 : n ≤ 9223372036854775807) :
    Calls Try.prog 14 #[.int .u8 way, .int .i64 n] w fun e w' => e = .returned (.bool true) ∧ Below w.heap.size w w' := by
  have HP := Aside0.mk (fun (wi : World) => num_pack n wi h0 (by omega))
  have HU := Aside0.mk (fun (wi : World) => num_unpack n wi h0 (by omega))
  have HN := Aside0.mk (fun (wi : World) (h0 : -2147483648 ≤ n) (h1 : n ≤ 2147483647) => number3 n wi h0 h1)
  have HN2 := Aside0.mk (fun (wi : World) (h0 : -2147483648 ≤ n) (h1 : n ≤ 2147483647) => number3 n wi h0 h1)
  have hz : (strOfNums (encInt n)).size ≤ 9 := by
    rw [show (strOfNums (encInt n)).size = (encInt n).length by unfold strOfNums; show (List.map _ (encInt n)).toArray.size = _; simp]
    unfold encInt
    repeat' split
    all_goals simp
  generalize strOfNums (encInt n) = sx at *
  have HS := Aside0.mk (fun (wi : World) A5 c5 A6 c6 h5 h6 => num_same n wi A5 c5 A6 c6 h5 h6)
  have hk2 : way.tmod 9 = 3 := by rw [Int.tmod_eq_emod_of_nonneg hw0]; exact hk
  go_enter Try.func14, Try.ntmps14
  by_cases hlo : n < -2147483648
  · go_wp2_with fail
    go_ret
    exact ⟨rfl, below_alloc (Below.refl _ _) _⟩
  by_cases hhi : n > 2147483647
  · go_wp2_with fail
    go_ret
    exact ⟨rfl, below_alloc (Below.refl _ _) _⟩
  go_wp2_with fail
  first | (with_reducible refine (HN.out _ (by omega) (by omega)).mono ?_) | (with_reducible refine (HN2.out _ (by omega) (by omega)).mono ?_)
  rintro e w1 ⟨rfl, hb⟩
  have HB := Aside0.mk ((below_alloc (Below.refl w.heap.size w) _).trans (hb.mono (by rw [World.size_alloc]; omega)))
  clear hb HN HN2
  go_wp2_with fail
  refine (HP.out _).mono ?_
  rintro e w2 ⟨rfl, hb⟩
  have HB2 := Aside0.mk (HB.out.trans (hb.mono HB.out.size))
  clear hb HB HP
  go_wp2_with fail
  refine (HU.out _).mono ?_
  rintro e w3 ⟨hb, A5, c5, A6, c6, rfl, h5, h6⟩
  have HB3 := Aside0.mk (HB2.out.trans (hb.mono HB2.out.size))
  have HC := Aside0.mk (And.intro h5 h6)
  clear hb HB2 HU h5 h6
  go_wp2_with fail
  refine (HS.out _ A5 c5 A6 c6 (Kd.C_below HC.out.1 (below_alloc (Below.refl _ _) _)) (Kd.C_below HC.out.2 (below_alloc (Below.refl _ _) _))).mono ?_
  rintro e w4 ⟨rfl, hb⟩
  have HB4 := Aside0.mk (HB3.out.trans (((below_alloc (Below.refl w3.heap.size w3) _).trans (hb.mono (by rw [World.size_alloc]; omega))).mono HB3.out.size))
  clear hb HB3 HC HS
  go_wp2_with fail
  refine (alive_any _).mono ?_
  rintro e w6 ⟨rfl, hb⟩
  have HB6 := Aside0.mk (HB4.out.trans (hb.mono HB4.out.size))
  clear hb HB4
  go_wp2_with fail
  go_ret
  exact ⟨rfl, HB6.out⟩

set_option maxHeartbeats 2000000 in
set_option maxRecDepth 100000 in
theorem fnum4 (way n : Int) (w : World) (hk : way % 9 = 4) (hw0 : 0 ≤ way) (hw1 : way ≤ 255) (h0 : -9223372036854775808 ≤ n) (h1 : n ≤ 9223372036854775807) :
    Calls Try.prog 14 #[.int .u8 way, .int .i64 n] w fun e w' => e = .returned (.bool true) ∧ Below w.heap.size w w' := by
  have HP := Aside0.mk (fun (wi : World) => num_pack n wi h0 (by omega))
  have HU := Aside0.mk (fun (wi : World) => num_unpack n wi h0 (by omega))
  have HN := Aside0.mk (fun (wi : World) (h0 : -9223372036854775808 ≤ n) (h1 : n ≤ 9223372036854775807) => number4 n wi h0 h1)
  have HN2 := Aside0.mk (fun (wi : World) (h0 : -9223372036854775808 ≤ n) (h1 : n ≤ 9223372036854775807) => number4 n wi h0 h1)
  have hz : (strOfNums (encInt n)).size ≤ 9 := by
    rw [show (strOfNums (encInt n)).size = (encInt n).length by unfold strOfNums; show (List.map _ (encInt n)).toArray.size = _; simp]
    unfold encInt
    repeat' split
    all_goals simp
  generalize strOfNums (encInt n) = sx at *
  have HS := Aside0.mk (fun (wi : World) A5 c5 A6 c6 h5 h6 => num_same n wi A5 c5 A6 c6 h5 h6)
  have hk2 : way.tmod 9 = 4 := by rw [Int.tmod_eq_emod_of_nonneg hw0]; exact hk
  go_enter Try.func14, Try.ntmps14
  by_cases hlo : n < -9223372036854775808
  · exfalso; omega
  by_cases hhi : n > 9223372036854775807
  · exfalso; omega
  go_wp2_with fail
  first | (with_reducible refine (HN.out _ (by omega) (by omega)).mono ?_) | (with_reducible refine (HN2.out _ (by omega) (by omega)).mono ?_)
  rintro e w1 ⟨rfl, hb⟩
  have HB := Aside0.mk ((below_alloc (Below.refl w.heap.size w) _).trans (hb.mono (by rw [World.size_alloc]; omega)))
  clear hb HN HN2
  go_wp2_with fail
  refine (HP.out _).mono ?_
  rintro e w2 ⟨rfl, hb⟩
  have HB2 := Aside0.mk (HB.out.trans (hb.mono HB.out.size))
  clear hb HB HP
  go_wp2_with fail
  refine (HU.out _).mono ?_
  rintro e w3 ⟨hb, A5, c5, A6, c6, rfl, h5, h6⟩
  have HB3 := Aside0.mk (HB2.out.trans (hb.mono HB2.out.size))
  have HC := Aside0.mk (And.intro h5 h6)
  clear hb HB2 HU h5 h6
  go_wp2_with fail
  refine (HS.out _ A5 c5 A6 c6 (Kd.C_below HC.out.1 (below_alloc (Below.refl _ _) _)) (Kd.C_below HC.out.2 (below_alloc (Below.refl _ _) _))).mono ?_
  rintro e w4 ⟨rfl, hb⟩
  have HB4 := Aside0.mk (HB3.out.trans (((below_alloc (Below.refl w3.heap.size w3) _).trans (hb.mono (by rw [World.size_alloc]; omega))).mono HB3.out.size))
  clear hb HB3 HC HS
  go_wp2_with fail
  refine (alive_any _).mono ?_
  rintro e w6 ⟨rfl, hb⟩
  have HB6 := Aside0.mk (HB4.out.trans (hb.mono HB4.out.size))
  clear hb HB4
  go_wp2_with fail
  go_ret
  exact ⟨rfl, HB6.out⟩

set_option maxHeartbeats 2000000 in
set_option maxRecDepth 100000 in
theorem fnum5 (way n : Int) (w : World) (hk : way % 9 = 5) (hw0 : 0 ≤ way) (hw1 : way ≤ 255) (h0 : -9223372036854775808 ≤ n) (h1 : n ≤ 9223372036854775807) :
    Calls Try.prog 14 #[.int .u8 way, .int .i64 n] w fun e w' => e = .returned (.bool true) ∧ Below w.heap.size w w' := by
  have HP := Aside0.mk (fun (wi : World) => num_pack n wi h0 (by omega))
  have HU := Aside0.mk (fun (wi : World) => num_unpack n wi h0 (by omega))
  have HN := Aside0.mk (fun (wi : World) (h0 : 0 ≤ n) (h1 : n ≤ 255) => number5 n wi h0 h1)
  have HN2 := Aside0.mk (fun (wi : World) (h0 : 0 ≤ n) (h1 : n ≤ 255) => (show IntKind.u64.wrap n = n by rw [IntKind.wrap_u64]; omega) ▸ number5 n wi h0 h1)
  have hz : (strOfNums (encInt n)).size ≤ 9 := by
    rw [show (strOfNums (encInt n)).size = (encInt n).length by unfold strOfNums; show (List.map _ (encInt n)).toArray.size = _; simp]
    unfold encInt
    repeat' split
    all_goals simp
  generalize strOfNums (encInt n) = sx at *
  have HS := Aside0.mk (fun (wi : World) A5 c5 A6 c6 h5 h6 => num_same n wi A5 c5 A6 c6 h5 h6)
  have hk2 : way.tmod 9 = 5 := by rw [Int.tmod_eq_emod_of_nonneg hw0]; exact hk
  go_enter Try.func14, Try.ntmps14
  by_cases hlo : n < 0
  · go_wp2_with fail
    go_ret
    exact ⟨rfl, below_alloc (Below.refl _ _) _⟩
  by_cases hhi : n > 255
  · go_wp2_with fail
    go_ret
    exact ⟨rfl, below_alloc (Below.refl _ _) _⟩
  go_wp2_with fail
  first | (with_reducible refine (HN.out _ (by omega) (by omega)).mono ?_) | (with_reducible refine (HN2.out _ (by omega) (by omega)).mono ?_)
  rintro e w1 ⟨rfl, hb⟩
  have HB := Aside0.mk ((below_alloc (Below.refl w.heap.size w) _).trans (hb.mono (by rw [World.size_alloc]; omega)))
  clear hb HN HN2
  go_wp2_with fail
  refine (HP.out _).mono ?_
  rintro e w2 ⟨rfl, hb⟩
  have HB2 := Aside0.mk (HB.out.trans (hb.mono HB.out.size))
  clear hb HB HP
  go_wp2_with fail
  refine (HU.out _).mono ?_
  rintro e w3 ⟨hb, A5, c5, A6, c6, rfl, h5, h6⟩
  have HB3 := Aside0.mk (HB2.out.trans (hb.mono HB2.out.size))
  have HC := Aside0.mk (And.intro h5 h6)
  clear hb HB2 HU h5 h6
  go_wp2_with fail
  refine (HS.out _ A5 c5 A6 c6 (Kd.C_below HC.out.1 (below_alloc (Below.refl _ _) _)) (Kd.C_below HC.out.2 (below_alloc (Below.refl _ _) _))).mono ?_
  rintro e w4 ⟨rfl, hb⟩
  have HB4 := Aside0.mk (HB3.out.trans (((below_alloc (Below.refl w3.heap.size w3) _).trans (hb.mono (by rw [World.size_alloc]; omega))).mono HB3.out.size))
  clear hb HB3 HC HS
  go_wp2_with fail
  refine (alive_any _).mono ?_
  rintro e w6 ⟨rfl, hb⟩
  have HB6 := Aside0.mk (HB4.out.trans (hb.mono HB4.out.size))
  clear hb HB4
  go_wp2_with fail
  go_ret
  exact ⟨rfl, HB6.out⟩

set_option maxHeartbeats 2000000 in
set_option maxRecDepth 100000 in
theorem fnum6 (way n : Int) (w : World) (hk : way % 9 = 6) (hw0 : 0 ≤ way) (hw1 : way ≤ 255) (h0 : -9223372036854775808 ≤ n) (h1 : n ≤ 9223372036854775807) :
    Calls Try.prog 14 #[.int .u8 way, .int .i64 n] w fun e w' => e = .returned (.bool true) ∧ Below w.heap.size w w' := by
  have HP := Aside0.mk (fun (wi : World) => num_pack n wi h0 (by omega))
  have HU := Aside0.mk (fun (wi : World) => num_unpack n wi h0 (by omega))
  have HN := Aside0.mk (fun (wi : World) (h0 : 0 ≤ n) (h1 : n ≤ 65535) => number6 n wi h0 h1)
  have HN2 := Aside0.mk (fun (wi : World) (h0 : 0 ≤ n) (h1 : n ≤ 65535) => (show IntKind.u64.wrap n = n by rw [IntKind.wrap_u64]; omega) ▸ number6 n wi h0 h1)
  have hz : (strOfNums (encInt n)).size ≤ 9 := by
    rw [show (strOfNums (encInt n)).size = (encInt n).length by unfold strOfNums; show (List.map _ (encInt n)).toArray.size = _; simp]
    unfold encInt
    repeat' split
    all_goals simp
  generalize strOfNums (encInt n) = sx at *
  have HS := Aside0.mk (fun (wi : World) A5 c5 A6 c6 h5 h6 => num_same n wi A5 c5 A6 c6 h5 h6)
  have hk2 : way.tmod 9 = 6 := by rw [Int.tmod_eq_emod_of_nonneg hw0]; exact hk
  go_enter Try.func14, Try.ntmps14
  by_cases hlo : n < 0
  · go_wp2_with fail
    go_ret
    exact ⟨rfl, below_alloc (Below.refl _ _) _⟩
  by_cases hhi : n > 65535
  · go_wp2_with fail
    go_ret
    exact ⟨rfl, below_alloc (Below.refl _ _) _⟩
  go_wp2_with fail
  first | (with_reducible refine (HN.out _ (by omega) (by omega)).mono ?_) | (with_reducible refine (HN2.out _ (by omega) (by omega)).mono ?_)
  rintro e w1 ⟨rfl, hb⟩
  have HB := Aside0.mk ((below_alloc (Below.refl w.heap.size w) _).trans (hb.mono (by rw [World.size_alloc]; omega)))
  clear hb HN HN2
  go_wp2_with fail
  refine (HP.out _).mono ?_
  rintro e w2 ⟨rfl, hb⟩
  have HB2 := Aside0.mk (HB.out.trans (hb.mono HB.out.size))
  clear hb HB HP
  go_wp2_with fail
  refine (HU.out _).mono ?_
  rintro e w3 ⟨hb, A5, c5, A6, c6, rfl, h5, h6⟩
  have HB3 := Aside0.mk (HB2.out.trans (hb.mono HB2.out.size))
  have HC := Aside0.mk (And.intro h5 h6)
  clear hb HB2 HU h5 h6
  go_wp2_with fail
  refine (HS.out _ A5 c5 A6 c6 (Kd.C_below HC.out.1 (below_alloc (Below.refl _ _) _)) (Kd.C_below HC.out.2 (below_alloc (Below.refl _ _) _))).mono ?_
  rintro e w4 ⟨rfl, hb⟩
  have HB4 := Aside0.mk (HB3.out.trans (((below_alloc (Below.refl w3.heap.size w3) _).trans (hb.mono (by rw [World.size_alloc]; omega))).mono HB3.out.size))
  clear hb HB3 HC HS
  go_wp2_with fail
  refine (alive_any _).mono ?_
  rintro e w6 ⟨rfl, hb⟩
  have HB6 := Aside0.mk (HB4.out.trans (hb.mono HB4.out.size))
  clear hb HB4
  go_wp2_with fail
  go_ret
  exact ⟨rfl, HB6.out⟩

set_option maxHeartbeats 2000000 in
set_option maxRecDepth 100000 in
theorem fnum7 (way n : Int) (w : World) (hk : way % 9 = 7) (hw0 : 0 ≤ way) (hw1 : way ≤ 255) (h0 : -9223372036854775808 ≤ n) (h1 : n ≤ 9223372036854775807) :
    Calls Try.prog 14 #[.int .u8 way, .int .i64 n] w fun e w' => e = .returned (.bool true) ∧ Below w.heap.size w w' := by
  have HP := Aside0.mk (fun (wi : World) => num_pack n wi h0 (by omega))
  have HU := Aside0.mk (fun (wi : World) => num_unpack n wi h0 (by omega))
  have HN := Aside0.mk (fun (wi : World) (h0 : 0 ≤ n) (h1 : n ≤ 4294967295) => number7 n wi h0 h1)
  have HN2 := Aside0.mk (fun (wi : World) (h0 : 0 ≤ n) (h1 : n ≤ 4294967295) => (show IntKind.u64.wrap n = n by rw [IntKind.wrap_u64]; omega) ▸ number7 n wi h0 h1)
  have hz : (strOfNums (encInt n)).size ≤ 9 := by
    rw [show (strOfNums (encInt n)).size = (encInt n).length by unfold strOfNums; show (List.map _ (encInt n)).toArray.size = _; simp]
    unfold encInt
    repeat' split
    all_goals simp
  generalize strOfNums (encInt n) = sx at *
  have HS := Aside0.mk (fun (wi : World) A5 c5 A6 c6 h5 h6 => num_same n wi A5 c5 A6 c6 h5 h6)
  have hk2 : way.tmod 9 = 7 := by rw [Int.tmod_eq_emod_of_nonneg hw0]; exact hk
  go_enter Try.func14, Try.ntmps14
  by_cases hlo : n < 0
  · go_wp2_with fail
    go_ret
    exact ⟨rfl, below_alloc (Below.refl _ _) _⟩
  by_cases hhi : n > 4294967295
  · go_wp2_with fail
    go_ret
    exact ⟨rfl, below_alloc (Below.refl _ _) _⟩
  go_wp2_with fail
  first | (with_reducible refine (HN.out _ (by omega) (by omega)).mono ?_) | (with_reducible refine (HN2.out _ (by omega) (by omega)).mono ?_)
  rintro e w1 ⟨rfl, hb⟩
  have HB := Aside0.mk ((below_alloc (Below.refl w.heap.size w) _).trans (hb.mono (by rw [World.size_alloc]; omega)))
  clear hb HN HN2
  go_wp2_with fail
  refine (HP.out _).mono ?_
  rintro e w2 ⟨rfl, hb⟩
  have HB2 := Aside0.mk (HB.out.trans (hb.mono HB.out.size))
  clear hb HB HP
  go_wp2_with fail
  refine (HU.out _).mono ?_
  rintro e w3 ⟨hb, A5, c5, A6, c6, rfl, h5, h6⟩
  have HB3 := Aside0.mk (HB2.out.trans (hb.mono HB2.out.size))
  have HC := Aside0.mk (And.intro h5 h6)
  clear hb HB2 HU h5 h6
  go_wp2_with fail
  refine (HS.out _ A5 c5 A6 c6 (Kd.C_below HC.out.1 (below_alloc (Below.refl _ _) _)) (Kd.C_below HC.out.2 (below_alloc (Below.refl _ _) _))).mono ?_
  rintro e w4 ⟨rfl, hb⟩
  have HB4 := Aside0.mk (HB3.out.trans (((below_alloc (Below.refl w3.heap.size w3) _).trans (hb.mono (by rw [World.size_alloc]; omega))).mono HB3.out.size))
  clear hb HB3 HC HS
  go_wp2_with fail
  refine (alive_any _).mono ?_
  rintro e w6 ⟨rfl, hb⟩
  have HB6 := Aside0.mk (HB4.out.trans (hb.mono HB4.out.size))
  clear hb HB4
  go_wp2_with fail
  go_ret
  exact ⟨rfl, HB6.out⟩

set_option maxHeartbeats 2000000 in
set_option maxRecDepth 100000 in
theorem fnum8 (way n : Int) (w : World) (hk : way % 9 = 8) (hw0 : 0 ≤ way) (hw1 : way ≤ 255) (h0 : -9223372036854775808 ≤ n) (h1 : n ≤ 9223372036854775807) :
    Calls Try.prog 14 #[.int .u8 way, .int .i64 n] w fun e w' => e = .returned (.bool true) ∧ Below w.heap.size w w' := by
  have HP := Aside0.mk (fun (wi : World) => num_pack n wi h0 (by omega))
  have HU := Aside0.mk (fun (wi : World) => num_unpack n wi h0 (by omega))
  have HN := Aside0.mk (fun (wi : World) (h0 : 0 ≤ n) (h1 : n ≤ 9223372036854775807) => number8 n wi h0 h1)
  have HN2 := Aside0.mk (fun (wi : World) (h0 : 0 ≤ n) (h1 : n ≤ 9223372036854775807) => (show IntKind.u64.wrap n = n by rw [IntKind.wrap_u64]; omega) ▸ number8 n wi h0 h1)
  have hz : (strOfNums (encInt n)).size ≤ 9 := by
    rw [show (strOfNums (encInt n)).size = (encInt n).length by unfold strOfNums; show (List.map _ (encInt n)).toArray.size = _; simp]
    unfold encInt
    repeat' split
    all_goals simp
  generalize strOfNums (encInt n) = sx at *
  have HS := Aside0.mk (fun (wi : World) A5 c5 A6 c6 h5 h6 => num_same n wi A5 c5 A6 c6 h5 h6)
  have hk2 : way.tmod 9 = 8 := by rw [Int.tmod_eq_emod_of_nonneg hw0]; exact hk
  go_enter Try.func14, Try.ntmps14
  by_cases hlo : n < 0
  · go_wp2_with fail
    go_ret
    exact ⟨rfl, below_alloc (Below.refl _ _) _⟩
  by_cases hhi : n > 9223372036854775807
  · exfalso; omega
  go_wp2_with fail
  first | (with_reducible refine (HN.out _ (by omega) (by omega)).mono ?_) | (with_reducible refine (HN2.out _ (by omega) (by omega)).mono ?_)
  rintro e w1 ⟨rfl, hb⟩
  have HB := Aside0.mk ((below_alloc (Below.refl w.heap.size w) _).trans (hb.mono (by rw [World.size_alloc]; omega)))
  clear hb HN HN2
  go_wp2_with fail
  refine (HP.out _).mono ?_
  rintro e w2 ⟨rfl, hb⟩
  have HB2 := Aside0.mk (HB.out.trans (hb.mono HB.out.size))
  clear hb HB HP
  go_wp2_with fail
  refine (HU.out _).mono ?_
  rintro e w3 ⟨hb, A5, c5, A6, c6, rfl, h5, h6⟩
  have HB3 := Aside0.mk (HB2.out.trans (hb.mono HB2.out.size))
  have HC := Aside0.mk (And.intro h5 h6)
  clear hb HB2 HU h5 h6
  go_wp2_with fail
  refine (HS.out _ A5 c5 A6 c6 (Kd.C_below HC.out.1 (below_alloc (Below.refl _ _) _)) (Kd.C_below HC.out.2 (below_alloc (Below.refl _ _) _))).mono ?_
  rintro e w4 ⟨rfl, hb⟩
  have HB4 := Aside0.mk (HB3.out.trans (((below_alloc (Below.refl w3.heap.size w3) _).trans (hb.mono (by rw [World.size_alloc]; omega))).mono HB3.out.size))
  clear hb HB3 HC HS
  go_wp2_with fail
  refine (alive_any _).mono ?_
  rintro e w6 ⟨rfl, hb⟩
  have HB6 := Aside0.mk (HB4.out.trans (hb.mono HB4.out.size))
  clear hb HB4
  go_wp2_with fail
  go_ret
  exact ⟨rfl, HB6.out⟩

theorem FnPackNumber_row (way n : Int) (w : World) (hw : (Lit.int IntKind.u8 way).wf = true) (hn : (Lit.int IntKind.i64 n).wf = true) :
    Calls Try.prog 14 #[.int .u8 way, .int .i64 n] w fun e w' => e = .returned (.bool true) ∧ Below w.heap.size w w' := by
  have h0 : 0 ≤ way ∧ way ≤ 255 := by have := Go.bounds_u8 hw; omega
  have h1 := Go.bounds_i64 hn
  rcases (show way % 9 = 0 ∨ way % 9 = 1 ∨ way % 9 = 2 ∨ way % 9 = 3 ∨ way % 9 = 4 ∨ way % 9 = 5 ∨ way % 9 = 6 ∨ way % 9 = 7 ∨ way % 9 = 8 by omega) with h | h | h | h | h | h | h | h | h
  · exact fnum0 way n w h (by omega) (by omega) (by omega) (by omega)
  · exact fnum1 way n w h (by omega) (by omega) (by omega) (by omega)
  · exact fnum2 way n w h (by omega) (by omega) (by omega) (by omega)
  · exact fnum3 way n w h (by omega) (by omega) (by omega) (by omega)
  · exact fnum4 way n w h (by omega) (by omega) (by omega) (by omega)
  · exact fnum5 way n w h (by omega) (by omega) (by omega) (by omega)
  · exact fnum6 way n w h (by omega) (by omega) (by omega) (by omega)
  · exact fnum7 way n w h (by omega) (by omega) (by omega) (by omega)
  · exact fnum8 way n w h (by omega) (by omega) (by omega) (by omega)
end Go.Proofs.Ytjnookhdiolhgaa
