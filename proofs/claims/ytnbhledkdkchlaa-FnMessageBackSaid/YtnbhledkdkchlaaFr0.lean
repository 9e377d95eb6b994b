/- Frames: laws.big, laws.framed. (seat r2) -/
import Derived.Test.YtnbhledkdkchlaaAlive
import Derived.Deep.LoopGhost
import Derived.Laws.BitsLemmas
namespace Go.Proofs.Ytnbhledkdkchlaa
set_option linter.unusedVariables false
set_option linter.unusedSimpArgs false
open Go.RowKit Go.Proofs.YtnbhledkdkchlaaW.PrintWords Go.Proofs.YtnbhledkdkchlaaW.PrintLast Go.Proofs.YtnbhledkdkchlaaW.PrintMore
open PAll (info5)

/-- The last m bytes of a number, the highest one first. -/
def bigL (n : Int) : Nat → List Int
  | 0 => []
  | m + 1 => n / 256 ^ m % 256 :: bigL n m
theorem bigL_length (n : Int) (m : Nat) : (bigL n m).length = m := by
  induction m with
  | zero => rfl
  | succ m ih => simp [bigL, ih]
theorem big_set (n : Int) (q j : Nat) : (List.replicate (q + 1) (0 : Int) ++ bigL n j).set q (n / 256 ^ j % 256) = List.replicate q 0 ++ bigL n (j + 1) := by
  rw [List.replicate_succ', List.append_assoc, List.set_append_right _ _ (by simp)]
  simp [bigL]
theorem big_set' (n : Int) (q j : Nat) : (List.replicate (q + 1) (0 : Int) ++ bigL n j).set q (n / 2 ^ (8 * j) % 256) = List.replicate q 0 ++ bigL n (j + 1) := by
  rw [← big_set, show (2 : Int) ^ (8 * j) = 256 ^ j by rw [Int.pow_mul]; rfl]
theorem shr8 (n : Int) (j : Nat) (hj : j < 8) : shr .u64 n (8 * (j : Int)) = n / 256 ^ j := by
  unfold shr
  have e : min (8 * (j : Int)).toNat IntKind.u64.bits = 8 * j := by
    have : IntKind.u64.bits = 64 := rfl
    omega
  rw [e, Int.pow_mul]
  rfl

set_option maxHeartbeats 4000000 in
set_option maxRecDepth 100000 in
theorem big_any (n : Int) (m : Nat) (hm : m ≤ 8) (w : World) :
    Calls Try.prog 27 #[.int .u64 n, .int .i64 m] w fun e w' => e = .returned (.string (strOfNums (bigL n m))) ∧ Below w.heap.size w w' := by
  have HB := Aside0.mk (Below.refl w.heap.size w)
  have hm8 : (m : Int) ≤ 8 := by omega
  have c3 : decide ((0 : Int) ≤ (m : Int)) = true := decide_eq_true (by omega)
  have c4 : decide (((m : Int)).toNat ≤ 281474976710656) = true := decide_eq_true (by omega)
  obtain ⟨y, hy⟩ : ∃ y_ : List Int, y_ = List.replicate ((m : Int)).toNat 0 := ⟨_, rfl⟩
  have Ny := Aside0.mk hy
  clear hy
  go_enter Try.func27, Try.ntmps27
  go_wp2_with (first | ((with_reducible refine gate_dst (N := 8) rfl ?_); refine Kd.R_make (Kd.int .u8) _ 5 rfl (N := 8) rfl 69 _ _ rfl (m : Int) rfl rfl Try.underlying69 (.int .u8 0) 1 info5 rfl (by decide) (by omega) 0 (ok := fun _ => True) (okp := fun _ => True) rfl (fun _ hk => hk) trivial (of_decide_eq_true (by assumption)) (Nat.le_trans (Nat.mul_le_mul_right _ (of_decide_eq_true (by assumption) : ((m : Int)).toNat ≤ 281474976710656)) (by omega)) (Below.refl _ _) (Nat.le_refl _) ?_; intro v124 w5 ho6 hb hg_ hnew_; clear hg_ hnew_; obtain ⟨A9, c9, rfl⟩ := Kd.R_slice ho6; have HO := Aside0.mk ho6; have HB5 := Aside0.mk hb; clear hb ho6))
  have hlm : (List.replicate ((m : Int)).toNat (0 : Int)).length = m := by simp
  have ho5 := HO.out
  rw [hlm] at ho5
  have HO2 := Aside0.mk (show (Kd.int .u8).R 5 w5 w.heap.size (fun _ => True) (.slice A9 m c9) (List.replicate m 0) by have h := ho5; rwa [Int.toNat_natCast] at h)
  clear HO ho5 Ny c3 c4 hlm
  go_loopg [11] m (fun gk v11 wr => ∃ j : Nat, v11 = .int .i64 j ∧ Aside0 (j ≤ m ∧ gk = m - j) ∧ Aside0 ((Kd.int .u8).R 5 wr w.heap.size (fun _ => True) (.slice A9 m c9) (List.replicate (m - j) 0 ++ bigL n j)) ∧ Aside0 (Below w.heap.size w wr))
  case atStart => exact ⟨0, rfl, ⟨by omega⟩, ⟨by simpa [bigL] using HO2.out⟩, ⟨HB5.out⟩⟩
  case round =>
    clear HO2 HB5
    obtain ⟨j, rfl, HJ, HR, HBr⟩ := hrel
    by_cases hj : j < m
    · obtain ⟨q, hq⟩ : ∃ q, m = q + 1 + j := ⟨m - 1 - j, by omega⟩
      have hq1 : m - j = q + 1 := by omega
      have hr := HR.out
      rw [hq1] at hr
      have hlen : (List.replicate (q + 1) (0 : Int) ++ bigL n j).length = m := by rw [List.length_append, List.length_replicate, bigL_length]; omega
      have e8 : IntKind.i64.wrap (8 * (j : Int)) = 8 * (j : Int) := by rw [IntKind.wrap_i64]; omega
      have e1 : IntKind.i64.wrap ((m : Int) - 1) = (m : Int) - 1 := by rw [IntKind.wrap_i64]; omega
      have e2 : IntKind.i64.wrap ((m : Int) - 1 - (j : Int)) = (q : Int) := by rw [IntKind.wrap_i64]; omega
      have es : shr .u64 n (8 * (j : Int)) = n / 256 ^ j := shr8 n j (by omega)
      have p8 : decide (0 ≤ 8 * (j : Int)) = true := decide_eq_true (by omega)
      have pq : decide (0 ≤ (q : Int)) = true := decide_eq_true (by omega)
      have pm : decide ((q : Int) < (m : Int)) = true := decide_eq_true (by omega)
      obtain ⟨g, cap, he, h1, h2, -⟩ := Kd.R_form hr (by rw [hlen]; omega)
      rw [hlen] at he
      injection he with he ha hb
      subst he
      subst hb
      have hr2 : (Kd.int .u8).R 5 wr w.heap.size (fun _ => True) (.slice (some ⟨g, 0, none⟩) (List.replicate (q + 1) (0 : Int) ++ bigL n j).length c9) (List.replicate (q + 1) (0 : Int) ++ bigL n j) := by rw [hlen]; exact hr
      obtain ⟨hx, hf⟩ := Kd.R_celln 0 hr2 (q : Int) (by omega) (by rw [hlen]; omega)
      have HP := Kd.R_putg hr2 (q : Int) (n / 2 ^ (8 * j) % 256)
      rw [Int.toNat_natCast, big_set', hlen] at HP
      rw [Int.toNat_natCast] at hx hf
      clear hr hr2 h2
      have HR2 := Aside0.mk HP.1
      have HB2 := Aside0.mk (show Below w.heap.size w (wr.setCell ⟨g, q, none⟩ (.int .u8 (n / 2 ^ (8 * j) % 256))) from below_set HBr.out h1)
      have HQ := Aside0.mk (show m - (j + 1) = q by omega)
      have hqm : (q : Int) < (m : Int) := by omega
      have hqm2 : q < m := by omega
      clear HP hq hq1 hlen pm
      go_wp2_with fail
      go_roundg (m - (j + 1))
      case measure => have := HJ.out.2; omega
      case rel =>
        refine ⟨j + 1, by go_num, ⟨by omega⟩, ⟨?_⟩, ⟨HB2.out⟩⟩
        rw [HQ.out]
        exact HR2.out
    · have hje : j = m := by have := HJ.out.1; omega
      subst hje
      have hr := HR.out
      rw [Nat.sub_self, List.replicate_zero, List.nil_append] at hr
      have hlen := bigL_length n j
      have hr2 : (Kd.int .u8).R 5 wr w.heap.size (fun _ => True) (.slice A9 (bigL n j).length c9) (bigL n j) := by rw [hlen]; exact hr
      have hcv := own_string (P := Try.prog) Try.underlying69 Try.underlying5 Try.underlying9 (Kd.own_of_R hr2)
      rw [hlen] at hcv
      clear hr hr2
      go_wp2_with fail
      go_ret
      exact ⟨rfl, HBr.out⟩

theorem fr_append (a b : List Int) : strOfNums (a ++ b) = strOfNums a ++ strOfNums b := by
  have ofData : ∀ {a b : ByteArray}, a.data.toList = b.data.toList → a = b := by
    intro a b h
    cases a; cases b
    simp at h
    rw [h]
  apply ofData
  unfold strOfNums
  simp
theorem fr_size (l : List Int) : (strOfNums l).size = l.length := by
  unfold strOfNums
  show (List.map _ l).toArray.size = _
  simp
/-- A frame's bytes. -/
def frameL (kind n : Int) : List Int := bigL (n + 4) 4 ++ bigL (kind % 4294967296) 4
theorem frameL_length (kind n : Int) : (frameL kind n).length = 8 := by unfold frameL; rw [List.length_append, bigL_length, bigL_length]

set_option maxHeartbeats 2000000 in
set_option maxRecDepth 100000 in
theorem framed_any (kind : Int) (data : ByteArray) (w : World) (hk0 : -2147483648 ≤ kind) (hk1 : kind ≤ 2147483647) (hd : data.size ≤ 2147483647) :
    Calls Try.prog 34 #[.int .i32 kind, .string data] w fun e w' => e = .returned (.string (strOfNums (frameL kind data.size) ++ data)) ∧ Below w.heap.size w w' := by
  have HB1 : Aside0 (∀ wi : World, Calls Try.prog 27 #[.int .u64 ((data.size : Int) + 4), .int .i64 4] wi fun e w' => e = .returned (.string (strOfNums (bigL ((data.size : Int) + 4) 4))) ∧ Below wi.heap.size wi w') := ⟨fun wi => big_any _ 4 (by omega) wi⟩
  have hu1 : IntKind.u64.wrap ((data.size : Int) + 4) = (data.size : Int) + 4 := by rw [IntKind.wrap_u64]; omega
  have hwi : IntKind.i64.wrap ((data.size : Int) + 4) = (data.size : Int) + 4 := by rw [IntKind.wrap_i64]; omega
  obtain ⟨u, hu⟩ : ∃ u, IntKind.u32.wrap kind = u := ⟨_, rfl⟩
  have hue : u = kind % 4294967296 := by rw [← hu, IntKind.wrap_u32]
  have hu2 : IntKind.u64.wrap u = u := by rw [IntKind.wrap_u64]; omega
  have HB2 : Aside0 (∀ wi : World, Calls Try.prog 27 #[.int .u64 u, .int .i64 4] wi fun e w' => e = .returned (.string (strOfNums (bigL u 4))) ∧ Below wi.heap.size wi w') := ⟨fun wi => big_any _ 4 (by omega) wi⟩
  have HE := Aside0.mk (show strOfNums (frameL kind data.size) ++ data = strOfNums (bigL ((data.size : Int) + 4) 4) ++ strOfNums (bigL u 4) ++ data by unfold frameL; rw [fr_append, hue])
  have z1 : (strOfNums (bigL ((data.size : Int) + 4) 4)).size = 4 := by rw [fr_size, bigL_length]
  have z2 : (strOfNums (bigL u 4)).size = 4 := by rw [fr_size, bigL_length]
  rw [HE.out]
  clear hue hk0 hk1
  generalize strOfNums (bigL ((data.size : Int) + 4) 4) = s1 at *
  generalize strOfNums (bigL u 4) = s2 at *
  clear HE
  go_enter Try.func34, Try.ntmps34
  go_wp2_with fail
  refine (HB1.out _).mono ?_
  rintro e w1 ⟨rfl, hb⟩
  have HBA := Aside0.mk hb
  clear hb
  go_wp2_with fail
  refine (HB2.out _).mono ?_
  rintro e w2 ⟨rfl, hb⟩
  have HBB := Aside0.mk (HBA.out.trans (hb.mono HBA.out.size))
  clear hb
  go_wp2_with fail
  go_ret
  exact ⟨rfl, HBB.out⟩
end Go.Proofs.Ytnbhledkdkchlaa
