/- Which error the parser makes of a text. (seat r3.Z; printed by gen_er4.py) A line of an error: the list of kinds, and what is added to it. (seat r3.Z) -/
import Derived.Test.YtkogipaaioibaaaGreatEa
namespace Go.Proofs.YtkogipaaioibaaaGreat
set_option linter.unusedVariables false
set_option linter.unusedSimpArgs false
open Go.RowKit Go.Proofs.YtkogipaaioibaaaGreatW.PrintWords
theorem pre_apart : ∀ i j : Fin 14, (L (pre i)).take (min (pre i).size (pre j).size) = (L (pre j)).take (min (pre i).size (pre j).size) → i = j := by decide +kernel
theorem at_one {m : ByteArray} {i j : Nat} (hi : i < 14) (hj : j < 14) (h1 : At (pre i) m 0) (h2 : At (pre j) m 0) : i = j := by
  have h := pre_apart ⟨i, hi⟩ ⟨j, hj⟩ (by
    show (L (pre i)).take (min (pre i).size (pre j).size) = (L (pre j)).take (min (pre i).size (pre j).size)
    have e1 := h1.2
    have e2 := h2.2
    rw [List.drop_zero] at e1 e2
    rw [← e1, ← e2, List.take_take, List.take_take]
    congr 1
    omega)
  exact congrArg Fin.val h
theorem at_no {m : ByteArray} {i : Nat} (hi : i < 14) (h1 : At (pre i) m 0) (j : Nat) (hj : j < 14) (hne : i ≠ j) : ¬ At (pre j) m 0 := fun h2 => hne (at_one hi hj h1 h2)
theorem at_self {m : ByteArray} (h : m.toList = ([69, 82, 82, 32, 109, 97, 120, 32, 110, 117, 109, 98, 101, 114, 32, 111, 102, 32, 99, 108, 105, 101, 110, 116, 115, 32, 114, 101, 97, 99, 104, 101, 100] : List UInt8)) : At (pre 8) m 0 := by
  obtain rfl : m = pre 8 := L_inj (by rw [← toL, h]; rfl)
  exact ⟨by omega, by rw [List.drop_zero, List.take_of_length_le (by rw [L_len]; omega)]⟩
/-- What the parser leaves. -/
def ParseR (w : World) (m a : ByteArray) (c : Nat) (e : Ending) (w' : World) : Prop := ∃ v, e = .returned v ∧ EVal w' m a c v ∧ Below w.heap.size w w'
set_option maxHeartbeats 2000000 in
set_option maxRecDepth 100000 in
theorem parse_0 (m : ByteArray) (hz : m.size ≤ 1000) (hi : At (pre 0) m 0) (hu : ∀ j, ¬ At unauth m j) (w : World) : Calls Tryz.prog 33 #[.string m] w fun e w' => ParseR w m ⟨#[]⟩ 0 e w' := by
  have H0 := Lib.hid (fun w => hp_yes m (pre 0) hi w)
  have H1 := Lib.hid (fun w => hp_no m (pre 1) (at_no (i := 0) (by decide) hi 1 (by decide) (by decide)) w)
  have H2 := Lib.hid (fun w => hp_no m (pre 2) (at_no (i := 0) (by decide) hi 2 (by decide) (by decide)) w)
  have H3 := Lib.hid (fun w => hp_no m (pre 3) (at_no (i := 0) (by decide) hi 3 (by decide) (by decide)) w)
  have H4 := Lib.hid (fun w => hp_no m (pre 4) (at_no (i := 0) (by decide) hi 4 (by decide) (by decide)) w)
  have H5 := Lib.hid (fun w => hp_no m (pre 5) (at_no (i := 0) (by decide) hi 5 (by decide) (by decide)) w)
  have H6 := Lib.hid (fun w => hp_no m (pre 6) (at_no (i := 0) (by decide) hi 6 (by decide) (by decide)) w)
  have H7 := Lib.hid (fun w => hp_no m (pre 7) (at_no (i := 0) (by decide) hi 7 (by decide) (by decide)) w)
  have H9 := Lib.hid (fun w => hp_no m (pre 9) (at_no (i := 0) (by decide) hi 9 (by decide) (by decide)) w)
  have H10 := Lib.hid (fun w => hp_no m (pre 10) (at_no (i := 0) (by decide) hi 10 (by decide) (by decide)) w)
  have H11 := Lib.hid (fun w => hp_no m (pre 11) (at_no (i := 0) (by decide) hi 11 (by decide) (by decide)) w)
  have H12 := Lib.hid (fun w => hp_no m (pre 12) (at_no (i := 0) (by decide) hi 12 (by decide) (by decide)) w)
  have H13 := Lib.hid (fun w => hp_no m (pre 13) (at_no (i := 0) (by decide) hi 13 (by decide) (by decide)) w)
  have HU := Lib.hid (fun w => ct_no m unauth hz (by decide) hu w)
  have he : ¬ m.toList = ([69, 82, 82, 32, 109, 97, 120, 32, 110, 117, 109, 98, 101, 114, 32, 111, 102, 32, 99, 108, 105, 101, 110, 116, 115, 32, 114, 101, 97, 99, 104, 101, 100] : List UInt8) := fun h => at_no (i := 0) (by decide) hi 8 (by decide) (by decide) (at_self h)
  clear hi hu
  have he2 : (m.toList == ([69, 82, 82, 32, 109, 97, 120, 32, 110, 117, 109, 98, 101, 114, 32, 111, 102, 32, 99, 108, 105, 101, 110, 116, 115, 32, 114, 101, 97, 99, 104, 101, 100] : List UInt8)) = false := beq_false_of_ne he
  go_enter Tryz.func33, Tryz.ntmps33
  go_wp2_with fail
  refine (H0.out _).mono ?_
  rintro e w1 ⟨rfl, ⟨nd1, rfl⟩⟩
  go_wp2_with fail
  refine (new_Loading m _).mono ?_
  rintro e wn ⟨rfl, rfl⟩
  go_wp2_with fail
  go_ret
  exact ⟨_, rfl, ⟨_, rfl, heap_alloc_new _ _⟩, below_alloc (pw_below_drewN (Below.refl _ _) _) _⟩
set_option maxHeartbeats 2000000 in
set_option maxRecDepth 100000 in
theorem parse_1 (m : ByteArray) (hz : m.size ≤ 1000) (hi : At (pre 1) m 0) (hu : ∀ j, ¬ At unauth m j) (w : World) : Calls Tryz.prog 33 #[.string m] w fun e w' => ParseR w m ⟨#[]⟩ 1 e w' := by
  have H0 := Lib.hid (fun w => hp_no m (pre 0) (at_no (i := 1) (by decide) hi 0 (by decide) (by decide)) w)
  have H1 := Lib.hid (fun w => hp_yes m (pre 1) hi w)
  have H2 := Lib.hid (fun w => hp_no m (pre 2) (at_no (i := 1) (by decide) hi 2 (by decide) (by decide)) w)
  have H3 := Lib.hid (fun w => hp_no m (pre 3) (at_no (i := 1) (by decide) hi 3 (by decide) (by decide)) w)
  have H4 := Lib.hid (fun w => hp_no m (pre 4) (at_no (i := 1) (by decide) hi 4 (by decide) (by decide)) w)
  have H5 := Lib.hid (fun w => hp_no m (pre 5) (at_no (i := 1) (by decide) hi 5 (by decide) (by decide)) w)
  have H6 := Lib.hid (fun w => hp_no m (pre 6) (at_no (i := 1) (by decide) hi 6 (by decide) (by decide)) w)
  have H7 := Lib.hid (fun w => hp_no m (pre 7) (at_no (i := 1) (by decide) hi 7 (by decide) (by decide)) w)
  have H9 := Lib.hid (fun w => hp_no m (pre 9) (at_no (i := 1) (by decide) hi 9 (by decide) (by decide)) w)
  have H10 := Lib.hid (fun w => hp_no m (pre 10) (at_no (i := 1) (by decide) hi 10 (by decide) (by decide)) w)
  have H11 := Lib.hid (fun w => hp_no m (pre 11) (at_no (i := 1) (by decide) hi 11 (by decide) (by decide)) w)
  have H12 := Lib.hid (fun w => hp_no m (pre 12) (at_no (i := 1) (by decide) hi 12 (by decide) (by decide)) w)
  have H13 := Lib.hid (fun w => hp_no m (pre 13) (at_no (i := 1) (by decide) hi 13 (by decide) (by decide)) w)
  have HU := Lib.hid (fun w => ct_no m unauth hz (by decide) hu w)
  have he : ¬ m.toList = ([69, 82, 82, 32, 109, 97, 120, 32, 110, 117, 109, 98, 101, 114, 32, 111, 102, 32, 99, 108, 105, 101, 110, 116, 115, 32, 114, 101, 97, 99, 104, 101, 100] : List UInt8) := fun h => at_no (i := 1) (by decide) hi 8 (by decide) (by decide) (at_self h)
  clear hi hu
  have he2 : (m.toList == ([69, 82, 82, 32, 109, 97, 120, 32, 110, 117, 109, 98, 101, 114, 32, 111, 102, 32, 99, 108, 105, 101, 110, 116, 115, 32, 114, 101, 97, 99, 104, 101, 100] : List UInt8)) = false := beq_false_of_ne he
  go_enter Tryz.func33, Tryz.ntmps33
  go_wp2_with fail
  refine (H0.out _).mono ?_
  rintro e w1 ⟨rfl, ⟨nd1, rfl⟩⟩
  go_wp2_with fail
  refine (H1.out _).mono ?_
  rintro e w2 ⟨rfl, ⟨nd2, rfl⟩⟩
  go_wp2_with fail
  refine (new_ReadOnly m _).mono ?_
  rintro e wn ⟨rfl, rfl⟩
  go_wp2_with fail
  go_ret
  exact ⟨_, rfl, ⟨_, rfl, heap_alloc_new _ _⟩, below_alloc (pw_below_drewN (Below.refl _ _) _) _⟩
set_option maxHeartbeats 2000000 in
set_option maxRecDepth 100000 in
theorem parse_2 (m : ByteArray) (hz : m.size ≤ 1000) (hi : At (pre 2) m 0) (hu : ∀ j, ¬ At unauth m j) (a c : List UInt8) (hL : L m = a ++ 32 :: c) (hc : (32 : UInt8) ∉ c) (w : World) : Calls Tryz.prog 33 #[.string m] w fun e w' => ParseR w m (ofL c) 2 e w' := by
  have H0 := Lib.hid (fun w => hp_no m (pre 0) (at_no (i := 2) (by decide) hi 0 (by decide) (by decide)) w)
  have H1 := Lib.hid (fun w => hp_no m (pre 1) (at_no (i := 2) (by decide) hi 1 (by decide) (by decide)) w)
  have H2 := Lib.hid (fun w => hp_yes m (pre 2) hi w)
  have H3 := Lib.hid (fun w => hp_no m (pre 3) (at_no (i := 2) (by decide) hi 3 (by decide) (by decide)) w)
  have H4 := Lib.hid (fun w => hp_no m (pre 4) (at_no (i := 2) (by decide) hi 4 (by decide) (by decide)) w)
  have H5 := Lib.hid (fun w => hp_no m (pre 5) (at_no (i := 2) (by decide) hi 5 (by decide) (by decide)) w)
  have H6 := Lib.hid (fun w => hp_no m (pre 6) (at_no (i := 2) (by decide) hi 6 (by decide) (by decide)) w)
  have H7 := Lib.hid (fun w => hp_no m (pre 7) (at_no (i := 2) (by decide) hi 7 (by decide) (by decide)) w)
  have H9 := Lib.hid (fun w => hp_no m (pre 9) (at_no (i := 2) (by decide) hi 9 (by decide) (by decide)) w)
  have H10 := Lib.hid (fun w => hp_no m (pre 10) (at_no (i := 2) (by decide) hi 10 (by decide) (by decide)) w)
  have H11 := Lib.hid (fun w => hp_no m (pre 11) (at_no (i := 2) (by decide) hi 11 (by decide) (by decide)) w)
  have H12 := Lib.hid (fun w => hp_no m (pre 12) (at_no (i := 2) (by decide) hi 12 (by decide) (by decide)) w)
  have H13 := Lib.hid (fun w => hp_no m (pre 13) (at_no (i := 2) (by decide) hi 13 (by decide) (by decide)) w)
  have HU := Lib.hid (fun w => ct_no m unauth hz (by decide) hu w)
  have HA := Lib.hid (fun w => addr_any m hz a c hL hc w)
  clear hL hc
  have he : ¬ m.toList = ([69, 82, 82, 32, 109, 97, 120, 32, 110, 117, 109, 98, 101, 114, 32, 111, 102, 32, 99, 108, 105, 101, 110, 116, 115, 32, 114, 101, 97, 99, 104, 101, 100] : List UInt8) := fun h => at_no (i := 2) (by decide) hi 8 (by decide) (by decide) (at_self h)
  clear hi hu
  have he2 : (m.toList == ([69, 82, 82, 32, 109, 97, 120, 32, 110, 117, 109, 98, 101, 114, 32, 111, 102, 32, 99, 108, 105, 101, 110, 116, 115, 32, 114, 101, 97, 99, 104, 101, 100] : List UInt8)) = false := beq_false_of_ne he
  go_enter Tryz.func33, Tryz.ntmps33
  go_wp2_with fail
  refine (H0.out _).mono ?_
  rintro e w1 ⟨rfl, ⟨nd1, rfl⟩⟩
  go_wp2_with fail
  refine (H1.out _).mono ?_
  rintro e w2 ⟨rfl, ⟨nd2, rfl⟩⟩
  go_wp2_with fail
  refine (H2.out _).mono ?_
  rintro e w3 ⟨rfl, ⟨nd3, rfl⟩⟩
  go_wp2_with fail
  refine (HA.out _).mono ?_
  rintro e w4 ⟨rfl, ⟨nd4, rfl⟩⟩
  go_wp2_with fail
  refine (new_Moved m _ _).mono ?_
  rintro e wn ⟨rfl, rfl⟩
  go_wp2_with fail
  go_ret
  exact ⟨_, rfl, ⟨_, rfl, heap_alloc_new _ _⟩, below_alloc (pw_below_drewN (Below.refl _ _) _) _⟩
set_option maxHeartbeats 2000000 in
set_option maxRecDepth 100000 in
theorem parse_3 (m : ByteArray) (hz : m.size ≤ 1000) (hi : At (pre 3) m 0) (hu : ∀ j, ¬ At unauth m j) (a c : List UInt8) (hL : L m = a ++ 32 :: c) (hc : (32 : UInt8) ∉ c) (w : World) : Calls Tryz.prog 33 #[.string m] w fun e w' => ParseR w m (ofL c) 3 e w' := by
  have H0 := Lib.hid (fun w => hp_no m (pre 0) (at_no (i := 3) (by decide) hi 0 (by decide) (by decide)) w)
  have H1 := Lib.hid (fun w => hp_no m (pre 1) (at_no (i := 3) (by decide) hi 1 (by decide) (by decide)) w)
  have H2 := Lib.hid (fun w => hp_no m (pre 2) (at_no (i := 3) (by decide) hi 2 (by decide) (by decide)) w)
  have H3 := Lib.hid (fun w => hp_yes m (pre 3) hi w)
  have H4 := Lib.hid (fun w => hp_no m (pre 4) (at_no (i := 3) (by decide) hi 4 (by decide) (by decide)) w)
  have H5 := Lib.hid (fun w => hp_no m (pre 5) (at_no (i := 3) (by decide) hi 5 (by decide) (by decide)) w)
  have H6 := Lib.hid (fun w => hp_no m (pre 6) (at_no (i := 3) (by decide) hi 6 (by decide) (by decide)) w)
  have H7 := Lib.hid (fun w => hp_no m (pre 7) (at_no (i := 3) (by decide) hi 7 (by decide) (by decide)) w)
  have H9 := Lib.hid (fun w => hp_no m (pre 9) (at_no (i := 3) (by decide) hi 9 (by decide) (by decide)) w)
  have H10 := Lib.hid (fun w => hp_no m (pre 10) (at_no (i := 3) (by decide) hi 10 (by decide) (by decide)) w)
  have H11 := Lib.hid (fun w => hp_no m (pre 11) (at_no (i := 3) (by decide) hi 11 (by decide) (by decide)) w)
  have H12 := Lib.hid (fun w => hp_no m (pre 12) (at_no (i := 3) (by decide) hi 12 (by decide) (by decide)) w)
  have H13 := Lib.hid (fun w => hp_no m (pre 13) (at_no (i := 3) (by decide) hi 13 (by decide) (by decide)) w)
  have HU := Lib.hid (fun w => ct_no m unauth hz (by decide) hu w)
  have HA := Lib.hid (fun w => addr_any m hz a c hL hc w)
  clear hL hc
  have he : ¬ m.toList = ([69, 82, 82, 32, 109, 97, 120, 32, 110, 117, 109, 98, 101, 114, 32, 111, 102, 32, 99, 108, 105, 101, 110, 116, 115, 32, 114, 101, 97, 99, 104, 101, 100] : List UInt8) := fun h => at_no (i := 3) (by decide) hi 8 (by decide) (by decide) (at_self h)
  clear hi hu
  have he2 : (m.toList == ([69, 82, 82, 32, 109, 97, 120, 32, 110, 117, 109, 98, 101, 114, 32, 111, 102, 32, 99, 108, 105, 101, 110, 116, 115, 32, 114, 101, 97, 99, 104, 101, 100] : List UInt8)) = false := beq_false_of_ne he
  go_enter Tryz.func33, Tryz.ntmps33
  go_wp2_with fail
  refine (H0.out _).mono ?_
  rintro e w1 ⟨rfl, ⟨nd1, rfl⟩⟩
  go_wp2_with fail
  refine (H1.out _).mono ?_
  rintro e w2 ⟨rfl, ⟨nd2, rfl⟩⟩
  go_wp2_with fail
  refine (H2.out _).mono ?_
  rintro e w3 ⟨rfl, ⟨nd3, rfl⟩⟩
  go_wp2_with fail
  refine (H3.out _).mono ?_
  rintro e w4 ⟨rfl, ⟨nd4, rfl⟩⟩
  go_wp2_with fail
  refine (HA.out _).mono ?_
  rintro e w5 ⟨rfl, ⟨nd5, rfl⟩⟩
  go_wp2_with fail
  refine (new_Ask m _ _).mono ?_
  rintro e wn ⟨rfl, rfl⟩
  go_wp2_with fail
  go_ret
  exact ⟨_, rfl, ⟨_, rfl, heap_alloc_new _ _⟩, below_alloc (pw_below_drewN (Below.refl _ _) _) _⟩
set_option maxHeartbeats 2000000 in
set_option maxRecDepth 100000 in
theorem parse_4 (m : ByteArray) (hz : m.size ≤ 1000) (hi : At (pre 4) m 0) (hu : ∀ j, ¬ At unauth m j) (w : World) : Calls Tryz.prog 33 #[.string m] w fun e w' => ParseR w m ⟨#[]⟩ 4 e w' := by
  have H0 := Lib.hid (fun w => hp_no m (pre 0) (at_no (i := 4) (by decide) hi 0 (by decide) (by decide)) w)
  have H1 := Lib.hid (fun w => hp_no m (pre 1) (at_no (i := 4) (by decide) hi 1 (by decide) (by decide)) w)
  have H2 := Lib.hid (fun w => hp_no m (pre 2) (at_no (i := 4) (by decide) hi 2 (by decide) (by decide)) w)
  have H3 := Lib.hid (fun w => hp_no m (pre 3) (at_no (i := 4) (by decide) hi 3 (by decide) (by decide)) w)
  have H4 := Lib.hid (fun w => hp_yes m (pre 4) hi w)
  have H5 := Lib.hid (fun w => hp_no m (pre 5) (at_no (i := 4) (by decide) hi 5 (by decide) (by decide)) w)
  have H6 := Lib.hid (fun w => hp_no m (pre 6) (at_no (i := 4) (by decide) hi 6 (by decide) (by decide)) w)
  have H7 := Lib.hid (fun w => hp_no m (pre 7) (at_no (i := 4) (by decide) hi 7 (by decide) (by decide)) w)
  have H9 := Lib.hid (fun w => hp_no m (pre 9) (at_no (i := 4) (by decide) hi 9 (by decide) (by decide)) w)
  have H10 := Lib.hid (fun w => hp_no m (pre 10) (at_no (i := 4) (by decide) hi 10 (by decide) (by decide)) w)
  have H11 := Lib.hid (fun w => hp_no m (pre 11) (at_no (i := 4) (by decide) hi 11 (by decide) (by decide)) w)
  have H12 := Lib.hid (fun w => hp_no m (pre 12) (at_no (i := 4) (by decide) hi 12 (by decide) (by decide)) w)
  have H13 := Lib.hid (fun w => hp_no m (pre 13) (at_no (i := 4) (by decide) hi 13 (by decide) (by decide)) w)
  have HU := Lib.hid (fun w => ct_no m unauth hz (by decide) hu w)
  have he : ¬ m.toList = ([69, 82, 82, 32, 109, 97, 120, 32, 110, 117, 109, 98, 101, 114, 32, 111, 102, 32, 99, 108, 105, 101, 110, 116, 115, 32, 114, 101, 97, 99, 104, 101, 100] : List UInt8) := fun h => at_no (i := 4) (by decide) hi 8 (by decide) (by decide) (at_self h)
  clear hi hu
  have he2 : (m.toList == ([69, 82, 82, 32, 109, 97, 120, 32, 110, 117, 109, 98, 101, 114, 32, 111, 102, 32, 99, 108, 105, 101, 110, 116, 115, 32, 114, 101, 97, 99, 104, 101, 100] : List UInt8)) = false := beq_false_of_ne he
  go_enter Tryz.func33, Tryz.ntmps33
  go_wp2_with fail
  refine (H0.out _).mono ?_
  rintro e w1 ⟨rfl, ⟨nd1, rfl⟩⟩
  go_wp2_with fail
  refine (H1.out _).mono ?_
  rintro e w2 ⟨rfl, ⟨nd2, rfl⟩⟩
  go_wp2_with fail
  refine (H2.out _).mono ?_
  rintro e w3 ⟨rfl, ⟨nd3, rfl⟩⟩
  go_wp2_with fail
  refine (H3.out _).mono ?_
  rintro e w4 ⟨rfl, ⟨nd4, rfl⟩⟩
  go_wp2_with fail
  refine (H4.out _).mono ?_
  rintro e w5 ⟨rfl, ⟨nd5, rfl⟩⟩
  go_wp2_with fail
  refine (new_ClusterDown m _).mono ?_
  rintro e wn ⟨rfl, rfl⟩
  go_wp2_with fail
  go_ret
  exact ⟨_, rfl, ⟨_, rfl, heap_alloc_new _ _⟩, below_alloc (pw_below_drewN (Below.refl _ _) _) _⟩
set_option maxHeartbeats 2000000 in
set_option maxRecDepth 100000 in
theorem parse_5 (m : ByteArray) (hz : m.size ≤ 1000) (hi : At (pre 5) m 0) (hu : ∀ j, ¬ At unauth m j) (w : World) : Calls Tryz.prog 33 #[.string m] w fun e w' => ParseR w m ⟨#[]⟩ 5 e w' := by
  have H0 := Lib.hid (fun w => hp_no m (pre 0) (at_no (i := 5) (by decide) hi 0 (by decide) (by decide)) w)
  have H1 := Lib.hid (fun w => hp_no m (pre 1) (at_no (i := 5) (by decide) hi 1 (by decide) (by decide)) w)
  have H2 := Lib.hid (fun w => hp_no m (pre 2) (at_no (i := 5) (by decide) hi 2 (by decide) (by decide)) w)
  have H3 := Lib.hid (fun w => hp_no m (pre 3) (at_no (i := 5) (by decide) hi 3 (by decide) (by decide)) w)
  have H4 := Lib.hid (fun w => hp_no m (pre 4) (at_no (i := 5) (by decide) hi 4 (by decide) (by decide)) w)
  have H5 := Lib.hid (fun w => hp_yes m (pre 5) hi w)
  have H6 := Lib.hid (fun w => hp_no m (pre 6) (at_no (i := 5) (by decide) hi 6 (by decide) (by decide)) w)
  have H7 := Lib.hid (fun w => hp_no m (pre 7) (at_no (i := 5) (by decide) hi 7 (by decide) (by decide)) w)
  have H9 := Lib.hid (fun w => hp_no m (pre 9) (at_no (i := 5) (by decide) hi 9 (by decide) (by decide)) w)
  have H10 := Lib.hid (fun w => hp_no m (pre 10) (at_no (i := 5) (by decide) hi 10 (by decide) (by decide)) w)
  have H11 := Lib.hid (fun w => hp_no m (pre 11) (at_no (i := 5) (by decide) hi 11 (by decide) (by decide)) w)
  have H12 := Lib.hid (fun w => hp_no m (pre 12) (at_no (i := 5) (by decide) hi 12 (by decide) (by decide)) w)
  have H13 := Lib.hid (fun w => hp_no m (pre 13) (at_no (i := 5) (by decide) hi 13 (by decide) (by decide)) w)
  have HU := Lib.hid (fun w => ct_no m unauth hz (by decide) hu w)
  have he : ¬ m.toList = ([69, 82, 82, 32, 109, 97, 120, 32, 110, 117, 109, 98, 101, 114, 32, 111, 102, 32, 99, 108, 105, 101, 110, 116, 115, 32, 114, 101, 97, 99, 104, 101, 100] : List UInt8) := fun h => at_no (i := 5) (by decide) hi 8 (by decide) (by decide) (at_self h)
  clear hi hu
  have he2 : (m.toList == ([69, 82, 82, 32, 109, 97, 120, 32, 110, 117, 109, 98, 101, 114, 32, 111, 102, 32, 99, 108, 105, 101, 110, 116, 115, 32, 114, 101, 97, 99, 104, 101, 100] : List UInt8)) = false := beq_false_of_ne he
  go_enter Tryz.func33, Tryz.ntmps33
  go_wp2_with fail
  refine (H0.out _).mono ?_
  rintro e w1 ⟨rfl, ⟨nd1, rfl⟩⟩
  go_wp2_with fail
  refine (H1.out _).mono ?_
  rintro e w2 ⟨rfl, ⟨nd2, rfl⟩⟩
  go_wp2_with fail
  refine (H2.out _).mono ?_
  rintro e w3 ⟨rfl, ⟨nd3, rfl⟩⟩
  go_wp2_with fail
  refine (H3.out _).mono ?_
  rintro e w4 ⟨rfl, ⟨nd4, rfl⟩⟩
  go_wp2_with fail
  refine (H4.out _).mono ?_
  rintro e w5 ⟨rfl, ⟨nd5, rfl⟩⟩
  go_wp2_with fail
  refine (H5.out _).mono ?_
  rintro e w6 ⟨rfl, ⟨nd6, rfl⟩⟩
  go_wp2_with fail
  refine (new_TryAgain m _).mono ?_
  rintro e wn ⟨rfl, rfl⟩
  go_wp2_with fail
  go_ret
  exact ⟨_, rfl, ⟨_, rfl, heap_alloc_new _ _⟩, below_alloc (pw_below_drewN (Below.refl _ _) _) _⟩
set_option maxHeartbeats 2000000 in
set_option maxRecDepth 100000 in
theorem parse_6 (m : ByteArray) (hz : m.size ≤ 1000) (hi : At (pre 6) m 0) (hu : ∀ j, ¬ At unauth m j) (w : World) : Calls Tryz.prog 33 #[.string m] w fun e w' => ParseR w m ⟨#[]⟩ 6 e w' := by
  have H0 := Lib.hid (fun w => hp_no m (pre 0) (at_no (i := 6) (by decide) hi 0 (by decide) (by decide)) w)
  have H1 := Lib.hid (fun w => hp_no m (pre 1) (at_no (i := 6) (by decide) hi 1 (by decide) (by decide)) w)
  have H2 := Lib.hid (fun w => hp_no m (pre 2) (at_no (i := 6) (by decide) hi 2 (by decide) (by decide)) w)
  have H3 := Lib.hid (fun w => hp_no m (pre 3) (at_no (i := 6) (by decide) hi 3 (by decide) (by decide)) w)
  have H4 := Lib.hid (fun w => hp_no m (pre 4) (at_no (i := 6) (by decide) hi 4 (by decide) (by decide)) w)
  have H5 := Lib.hid (fun w => hp_no m (pre 5) (at_no (i := 6) (by decide) hi 5 (by decide) (by decide)) w)
  have H6 := Lib.hid (fun w => hp_yes m (pre 6) hi w)
  have H7 := Lib.hid (fun w => hp_no m (pre 7) (at_no (i := 6) (by decide) hi 7 (by decide) (by decide)) w)
  have H9 := Lib.hid (fun w => hp_no m (pre 9) (at_no (i := 6) (by decide) hi 9 (by decide) (by decide)) w)
  have H10 := Lib.hid (fun w => hp_no m (pre 10) (at_no (i := 6) (by decide) hi 10 (by decide) (by decide)) w)
  have H11 := Lib.hid (fun w => hp_no m (pre 11) (at_no (i := 6) (by decide) hi 11 (by decide) (by decide)) w)
  have H12 := Lib.hid (fun w => hp_no m (pre 12) (at_no (i := 6) (by decide) hi 12 (by decide) (by decide)) w)
  have H13 := Lib.hid (fun w => hp_no m (pre 13) (at_no (i := 6) (by decide) hi 13 (by decide) (by decide)) w)
  have HU := Lib.hid (fun w => ct_no m unauth hz (by decide) hu w)
  have he : ¬ m.toList = ([69, 82, 82, 32, 109, 97, 120, 32, 110, 117, 109, 98, 101, 114, 32, 111, 102, 32, 99, 108, 105, 101, 110, 116, 115, 32, 114, 101, 97, 99, 104, 101, 100] : List UInt8) := fun h => at_no (i := 6) (by decide) hi 8 (by decide) (by decide) (at_self h)
  clear hi hu
  have he2 : (m.toList == ([69, 82, 82, 32, 109, 97, 120, 32, 110, 117, 109, 98, 101, 114, 32, 111, 102, 32, 99, 108, 105, 101, 110, 116, 115, 32, 114, 101, 97, 99, 104, 101, 100] : List UInt8)) = false := beq_false_of_ne he
  go_enter Tryz.func33, Tryz.ntmps33
  go_wp2_with fail
  refine (H0.out _).mono ?_
  rintro e w1 ⟨rfl, ⟨nd1, rfl⟩⟩
  go_wp2_with fail
  refine (H1.out _).mono ?_
  rintro e w2 ⟨rfl, ⟨nd2, rfl⟩⟩
  go_wp2_with fail
  refine (H2.out _).mono ?_
  rintro e w3 ⟨rfl, ⟨nd3, rfl⟩⟩
  go_wp2_with fail
  refine (H3.out _).mono ?_
  rintro e w4 ⟨rfl, ⟨nd4, rfl⟩⟩
  go_wp2_with fail
  refine (H4.out _).mono ?_
  rintro e w5 ⟨rfl, ⟨nd5, rfl⟩⟩
  go_wp2_with fail
  refine (H5.out _).mono ?_
  rintro e w6 ⟨rfl, ⟨nd6, rfl⟩⟩
  go_wp2_with fail
  refine (H6.out _).mono ?_
  rintro e w7 ⟨rfl, ⟨nd7, rfl⟩⟩
  go_wp2_with fail
  refine (new_MasterDown m _).mono ?_
  rintro e wn ⟨rfl, rfl⟩
  go_wp2_with fail
  go_ret
  exact ⟨_, rfl, ⟨_, rfl, heap_alloc_new _ _⟩, below_alloc (pw_below_drewN (Below.refl _ _) _) _⟩
set_option maxHeartbeats 2000000 in
set_option maxRecDepth 100000 in
theorem parse_7 (m : ByteArray) (hz : m.size ≤ 1000) (hi : At (pre 7) m 0) (hu : ∀ j, ¬ At unauth m j) (w : World) : Calls Tryz.prog 33 #[.string m] w fun e w' => ParseR w m ⟨#[]⟩ 7 e w' := by
  have H0 := Lib.hid (fun w => hp_no m (pre 0) (at_no (i := 7) (by decide) hi 0 (by decide) (by decide)) w)
  have H1 := Lib.hid (fun w => hp_no m (pre 1) (at_no (i := 7) (by decide) hi 1 (by decide) (by decide)) w)
  have H2 := Lib.hid (fun w => hp_no m (pre 2) (at_no (i := 7) (by decide) hi 2 (by decide) (by decide)) w)
  have H3 := Lib.hid (fun w => hp_no m (pre 3) (at_no (i := 7) (by decide) hi 3 (by decide) (by decide)) w)
  have H4 := Lib.hid (fun w => hp_no m (pre 4) (at_no (i := 7) (by decide) hi 4 (by decide) (by decide)) w)
  have H5 := Lib.hid (fun w => hp_no m (pre 5) (at_no (i := 7) (by decide) hi 5 (by decide) (by decide)) w)
  have H6 := Lib.hid (fun w => hp_no m (pre 6) (at_no (i := 7) (by decide) hi 6 (by decide) (by decide)) w)
  have H7 := Lib.hid (fun w => hp_yes m (pre 7) hi w)
  have H9 := Lib.hid (fun w => hp_no m (pre 9) (at_no (i := 7) (by decide) hi 9 (by decide) (by decide)) w)
  have H10 := Lib.hid (fun w => hp_no m (pre 10) (at_no (i := 7) (by decide) hi 10 (by decide) (by decide)) w)
  have H11 := Lib.hid (fun w => hp_no m (pre 11) (at_no (i := 7) (by decide) hi 11 (by decide) (by decide)) w)
  have H12 := Lib.hid (fun w => hp_no m (pre 12) (at_no (i := 7) (by decide) hi 12 (by decide) (by decide)) w)
  have H13 := Lib.hid (fun w => hp_no m (pre 13) (at_no (i := 7) (by decide) hi 13 (by decide) (by decide)) w)
  have HU := Lib.hid (fun w => ct_no m unauth hz (by decide) hu w)
  have he : ¬ m.toList = ([69, 82, 82, 32, 109, 97, 120, 32, 110, 117, 109, 98, 101, 114, 32, 111, 102, 32, 99, 108, 105, 101, 110, 116, 115, 32, 114, 101, 97, 99, 104, 101, 100] : List UInt8) := fun h => at_no (i := 7) (by decide) hi 8 (by decide) (by decide) (at_self h)
  clear hi hu
  have he2 : (m.toList == ([69, 82, 82, 32, 109, 97, 120, 32, 110, 117, 109, 98, 101, 114, 32, 111, 102, 32, 99, 108, 105, 101, 110, 116, 115, 32, 114, 101, 97, 99, 104, 101, 100] : List UInt8)) = false := beq_false_of_ne he
  go_enter Tryz.func33, Tryz.ntmps33
  go_wp2_with fail
  refine (H0.out _).mono ?_
  rintro e w1 ⟨rfl, ⟨nd1, rfl⟩⟩
  go_wp2_with fail
  refine (H1.out _).mono ?_
  rintro e w2 ⟨rfl, ⟨nd2, rfl⟩⟩
  go_wp2_with fail
  refine (H2.out _).mono ?_
  rintro e w3 ⟨rfl, ⟨nd3, rfl⟩⟩
  go_wp2_with fail
  refine (H3.out _).mono ?_
  rintro e w4 ⟨rfl, ⟨nd4, rfl⟩⟩
  go_wp2_with fail
  refine (H4.out _).mono ?_
  rintro e w5 ⟨rfl, ⟨nd5, rfl⟩⟩
  go_wp2_with fail
  refine (H5.out _).mono ?_
  rintro e w6 ⟨rfl, ⟨nd6, rfl⟩⟩
  go_wp2_with fail
  refine (H6.out _).mono ?_
  rintro e w7 ⟨rfl, ⟨nd7, rfl⟩⟩
  go_wp2_with fail
  refine (H7.out _).mono ?_
  rintro e w8 ⟨rfl, ⟨nd8, rfl⟩⟩
  go_wp2_with fail
  refine (new_NoReplicas m _).mono ?_
  rintro e wn ⟨rfl, rfl⟩
  go_wp2_with fail
  go_ret
  exact ⟨_, rfl, ⟨_, rfl, heap_alloc_new _ _⟩, below_alloc (pw_below_drewN (Below.refl _ _) _) _⟩
set_option maxHeartbeats 2000000 in
set_option maxRecDepth 100000 in
theorem parse_8 (m : ByteArray) (hz : m.size ≤ 1000) (hi : At (pre 8) m 0) (he : m.toList = ([69, 82, 82, 32, 109, 97, 120, 32, 110, 117, 109, 98, 101, 114, 32, 111, 102, 32, 99, 108, 105, 101, 110, 116, 115, 32, 114, 101, 97, 99, 104, 101, 100] : List UInt8)) (hu : ∀ j, ¬ At unauth m j) (w : World) : Calls Tryz.prog 33 #[.string m] w fun e w' => ParseR w m ⟨#[]⟩ 8 e w' := by
  have H0 := Lib.hid (fun w => hp_no m (pre 0) (at_no (i := 8) (by decide) hi 0 (by decide) (by decide)) w)
  have H1 := Lib.hid (fun w => hp_no m (pre 1) (at_no (i := 8) (by decide) hi 1 (by decide) (by decide)) w)
  have H2 := Lib.hid (fun w => hp_no m (pre 2) (at_no (i := 8) (by decide) hi 2 (by decide) (by decide)) w)
  have H3 := Lib.hid (fun w => hp_no m (pre 3) (at_no (i := 8) (by decide) hi 3 (by decide) (by decide)) w)
  have H4 := Lib.hid (fun w => hp_no m (pre 4) (at_no (i := 8) (by decide) hi 4 (by decide) (by decide)) w)
  have H5 := Lib.hid (fun w => hp_no m (pre 5) (at_no (i := 8) (by decide) hi 5 (by decide) (by decide)) w)
  have H6 := Lib.hid (fun w => hp_no m (pre 6) (at_no (i := 8) (by decide) hi 6 (by decide) (by decide)) w)
  have H7 := Lib.hid (fun w => hp_no m (pre 7) (at_no (i := 8) (by decide) hi 7 (by decide) (by decide)) w)
  have H9 := Lib.hid (fun w => hp_no m (pre 9) (at_no (i := 8) (by decide) hi 9 (by decide) (by decide)) w)
  have H10 := Lib.hid (fun w => hp_no m (pre 10) (at_no (i := 8) (by decide) hi 10 (by decide) (by decide)) w)
  have H11 := Lib.hid (fun w => hp_no m (pre 11) (at_no (i := 8) (by decide) hi 11 (by decide) (by decide)) w)
  have H12 := Lib.hid (fun w => hp_no m (pre 12) (at_no (i := 8) (by decide) hi 12 (by decide) (by decide)) w)
  have H13 := Lib.hid (fun w => hp_no m (pre 13) (at_no (i := 8) (by decide) hi 13 (by decide) (by decide)) w)
  have HU := Lib.hid (fun w => ct_no m unauth hz (by decide) hu w)
  clear hi hu
  go_enter Tryz.func33, Tryz.ntmps33
  go_wp2_with fail
  refine (H0.out _).mono ?_
  rintro e w1 ⟨rfl, ⟨nd1, rfl⟩⟩
  go_wp2_with fail
  refine (H1.out _).mono ?_
  rintro e w2 ⟨rfl, ⟨nd2, rfl⟩⟩
  go_wp2_with fail
  refine (H2.out _).mono ?_
  rintro e w3 ⟨rfl, ⟨nd3, rfl⟩⟩
  go_wp2_with fail
  refine (H3.out _).mono ?_
  rintro e w4 ⟨rfl, ⟨nd4, rfl⟩⟩
  go_wp2_with fail
  refine (H4.out _).mono ?_
  rintro e w5 ⟨rfl, ⟨nd5, rfl⟩⟩
  go_wp2_with fail
  refine (H5.out _).mono ?_
  rintro e w6 ⟨rfl, ⟨nd6, rfl⟩⟩
  go_wp2_with fail
  refine (H6.out _).mono ?_
  rintro e w7 ⟨rfl, ⟨nd7, rfl⟩⟩
  go_wp2_with fail
  refine (H7.out _).mono ?_
  rintro e w8 ⟨rfl, ⟨nd8, rfl⟩⟩
  go_wp2_with fail
  refine (new_MaxClients m _).mono ?_
  rintro e wn ⟨rfl, rfl⟩
  go_wp2_with fail
  go_ret
  exact ⟨_, rfl, ⟨_, rfl, heap_alloc_new _ _⟩, below_alloc (pw_below_drewN (Below.refl _ _) _) _⟩
set_option maxHeartbeats 2000000 in
set_option maxRecDepth 100000 in
theorem parse_9 (m : ByteArray) (hz : m.size ≤ 1000) (hi : At (pre 9) m 0) (hu : ∀ j, ¬ At unauth m j) (w : World) : Calls Tryz.prog 33 #[.string m] w fun e w' => ParseR w m ⟨#[]⟩ 9 e w' := by
  have H0 := Lib.hid (fun w => hp_no m (pre 0) (at_no (i := 9) (by decide) hi 0 (by decide) (by decide)) w)
  have H1 := Lib.hid (fun w => hp_no m (pre 1) (at_no (i := 9) (by decide) hi 1 (by decide) (by decide)) w)
  have H2 := Lib.hid (fun w => hp_no m (pre 2) (at_no (i := 9) (by decide) hi 2 (by decide) (by decide)) w)
  have H3 := Lib.hid (fun w => hp_no m (pre 3) (at_no (i := 9) (by decide) hi 3 (by decide) (by decide)) w)
  have H4 := Lib.hid (fun w => hp_no m (pre 4) (at_no (i := 9) (by decide) hi 4 (by decide) (by decide)) w)
  have H5 := Lib.hid (fun w => hp_no m (pre 5) (at_no (i := 9) (by decide) hi 5 (by decide) (by decide)) w)
  have H6 := Lib.hid (fun w => hp_no m (pre 6) (at_no (i := 9) (by decide) hi 6 (by decide) (by decide)) w)
  have H7 := Lib.hid (fun w => hp_no m (pre 7) (at_no (i := 9) (by decide) hi 7 (by decide) (by decide)) w)
  have H9 := Lib.hid (fun w => hp_yes m (pre 9) hi w)
  have H10 := Lib.hid (fun w => hp_no m (pre 10) (at_no (i := 9) (by decide) hi 10 (by decide) (by decide)) w)
  have H11 := Lib.hid (fun w => hp_no m (pre 11) (at_no (i := 9) (by decide) hi 11 (by decide) (by decide)) w)
  have H12 := Lib.hid (fun w => hp_no m (pre 12) (at_no (i := 9) (by decide) hi 12 (by decide) (by decide)) w)
  have H13 := Lib.hid (fun w => hp_no m (pre 13) (at_no (i := 9) (by decide) hi 13 (by decide) (by decide)) w)
  have HU := Lib.hid (fun w => ct_no m unauth hz (by decide) hu w)
  have he : ¬ m.toList = ([69, 82, 82, 32, 109, 97, 120, 32, 110, 117, 109, 98, 101, 114, 32, 111, 102, 32, 99, 108, 105, 101, 110, 116, 115, 32, 114, 101, 97, 99, 104, 101, 100] : List UInt8) := fun h => at_no (i := 9) (by decide) hi 8 (by decide) (by decide) (at_self h)
  clear hi hu
  have he2 : (m.toList == ([69, 82, 82, 32, 109, 97, 120, 32, 110, 117, 109, 98, 101, 114, 32, 111, 102, 32, 99, 108, 105, 101, 110, 116, 115, 32, 114, 101, 97, 99, 104, 101, 100] : List UInt8)) = false := beq_false_of_ne he
  go_enter Tryz.func33, Tryz.ntmps33
  go_wp2_with fail
  refine (H0.out _).mono ?_
  rintro e w1 ⟨rfl, ⟨nd1, rfl⟩⟩
  go_wp2_with fail
  refine (H1.out _).mono ?_
  rintro e w2 ⟨rfl, ⟨nd2, rfl⟩⟩
  go_wp2_with fail
  refine (H2.out _).mono ?_
  rintro e w3 ⟨rfl, ⟨nd3, rfl⟩⟩
  go_wp2_with fail
  refine (H3.out _).mono ?_
  rintro e w4 ⟨rfl, ⟨nd4, rfl⟩⟩
  go_wp2_with fail
  refine (H4.out _).mono ?_
  rintro e w5 ⟨rfl, ⟨nd5, rfl⟩⟩
  go_wp2_with fail
  refine (H5.out _).mono ?_
  rintro e w6 ⟨rfl, ⟨nd6, rfl⟩⟩
  go_wp2_with fail
  refine (H6.out _).mono ?_
  rintro e w7 ⟨rfl, ⟨nd7, rfl⟩⟩
  go_wp2_with fail
  refine (H7.out _).mono ?_
  rintro e w8 ⟨rfl, ⟨nd8, rfl⟩⟩
  go_wp2_with fail
  refine (H9.out _).mono ?_
  rintro e w9 ⟨rfl, ⟨nd9, rfl⟩⟩
  go_wp2_with fail
  refine (new_Auth m _).mono ?_
  rintro e wn ⟨rfl, rfl⟩
  go_wp2_with fail
  go_ret
  exact ⟨_, rfl, ⟨_, rfl, heap_alloc_new _ _⟩, below_alloc (pw_below_drewN (Below.refl _ _) _) _⟩
set_option maxHeartbeats 2000000 in
set_option maxRecDepth 100000 in
theorem parse_10 (m : ByteArray) (hz : m.size ≤ 1000) (hi : At (pre 10) m 0) (hu : ∀ j, ¬ At unauth m j) (w : World) : Calls Tryz.prog 33 #[.string m] w fun e w' => ParseR w m ⟨#[]⟩ 9 e w' := by
  have H0 := Lib.hid (fun w => hp_no m (pre 0) (at_no (i := 10) (by decide) hi 0 (by decide) (by decide)) w)
  have H1 := Lib.hid (fun w => hp_no m (pre 1) (at_no (i := 10) (by decide) hi 1 (by decide) (by decide)) w)
  have H2 := Lib.hid (fun w => hp_no m (pre 2) (at_no (i := 10) (by decide) hi 2 (by decide) (by decide)) w)
  have H3 := Lib.hid (fun w => hp_no m (pre 3) (at_no (i := 10) (by decide) hi 3 (by decide) (by decide)) w)
  have H4 := Lib.hid (fun w => hp_no m (pre 4) (at_no (i := 10) (by decide) hi 4 (by decide) (by decide)) w)
  have H5 := Lib.hid (fun w => hp_no m (pre 5) (at_no (i := 10) (by decide) hi 5 (by decide) (by decide)) w)
  have H6 := Lib.hid (fun w => hp_no m (pre 6) (at_no (i := 10) (by decide) hi 6 (by decide) (by decide)) w)
  have H7 := Lib.hid (fun w => hp_no m (pre 7) (at_no (i := 10) (by decide) hi 7 (by decide) (by decide)) w)
  have H9 := Lib.hid (fun w => hp_no m (pre 9) (at_no (i := 10) (by decide) hi 9 (by decide) (by decide)) w)
  have H10 := Lib.hid (fun w => hp_yes m (pre 10) hi w)
  have H11 := Lib.hid (fun w => hp_no m (pre 11) (at_no (i := 10) (by decide) hi 11 (by decide) (by decide)) w)
  have H12 := Lib.hid (fun w => hp_no m (pre 12) (at_no (i := 10) (by decide) hi 12 (by decide) (by decide)) w)
  have H13 := Lib.hid (fun w => hp_no m (pre 13) (at_no (i := 10) (by decide) hi 13 (by decide) (by decide)) w)
  have HU := Lib.hid (fun w => ct_no m unauth hz (by decide) hu w)
  have he : ¬ m.toList = ([69, 82, 82, 32, 109, 97, 120, 32, 110, 117, 109, 98, 101, 114, 32, 111, 102, 32, 99, 108, 105, 101, 110, 116, 115, 32, 114, 101, 97, 99, 104, 101, 100] : List UInt8) := fun h => at_no (i := 10) (by decide) hi 8 (by decide) (by decide) (at_self h)
  clear hi hu
  have he2 : (m.toList == ([69, 82, 82, 32, 109, 97, 120, 32, 110, 117, 109, 98, 101, 114, 32, 111, 102, 32, 99, 108, 105, 101, 110, 116, 115, 32, 114, 101, 97, 99, 104, 101, 100] : List UInt8)) = false := beq_false_of_ne he
  go_enter Tryz.func33, Tryz.ntmps33
  go_wp2_with fail
  refine (H0.out _).mono ?_
  rintro e w1 ⟨rfl, ⟨nd1, rfl⟩⟩
  go_wp2_with fail
  refine (H1.out _).mono ?_
  rintro e w2 ⟨rfl, ⟨nd2, rfl⟩⟩
  go_wp2_with fail
  refine (H2.out _).mono ?_
  rintro e w3 ⟨rfl, ⟨nd3, rfl⟩⟩
  go_wp2_with fail
  refine (H3.out _).mono ?_
  rintro e w4 ⟨rfl, ⟨nd4, rfl⟩⟩
  go_wp2_with fail
  refine (H4.out _).mono ?_
  rintro e w5 ⟨rfl, ⟨nd5, rfl⟩⟩
  go_wp2_with fail
  refine (H5.out _).mono ?_
  rintro e w6 ⟨rfl, ⟨nd6, rfl⟩⟩
  go_wp2_with fail
  refine (H6.out _).mono ?_
  rintro e w7 ⟨rfl, ⟨nd7, rfl⟩⟩
  go_wp2_with fail
  refine (H7.out _).mono ?_
  rintro e w8 ⟨rfl, ⟨nd8, rfl⟩⟩
  go_wp2_with fail
  refine (H9.out _).mono ?_
  rintro e w9 ⟨rfl, ⟨nd9, rfl⟩⟩
  go_wp2_with fail
  refine (H10.out _).mono ?_
  rintro e w10 ⟨rfl, ⟨nd10, rfl⟩⟩
  go_wp2_with fail
  refine (new_Auth m _).mono ?_
  rintro e wn ⟨rfl, rfl⟩
  go_wp2_with fail
  go_ret
  exact ⟨_, rfl, ⟨_, rfl, heap_alloc_new _ _⟩, below_alloc (pw_below_drewN (Below.refl _ _) _) _⟩
set_option maxHeartbeats 2000000 in
set_option maxRecDepth 100000 in
theorem parse_11 (m : ByteArray) (hz : m.size ≤ 1000) (hi : At (pre 11) m 0) (hu : ∀ j, ¬ At unauth m j) (w : World) : Calls Tryz.prog 33 #[.string m] w fun e w' => ParseR w m ⟨#[]⟩ 10 e w' := by
  have H0 := Lib.hid (fun w => hp_no m (pre 0) (at_no (i := 11) (by decide) hi 0 (by decide) (by decide)) w)
  have H1 := Lib.hid (fun w => hp_no m (pre 1) (at_no (i := 11) (by decide) hi 1 (by decide) (by decide)) w)
  have H2 := Lib.hid (fun w => hp_no m (pre 2) (at_no (i := 11) (by decide) hi 2 (by decide) (by decide)) w)
  have H3 := Lib.hid (fun w => hp_no m (pre 3) (at_no (i := 11) (by decide) hi 3 (by decide) (by decide)) w)
  have H4 := Lib.hid (fun w => hp_no m (pre 4) (at_no (i := 11) (by decide) hi 4 (by decide) (by decide)) w)
  have H5 := Lib.hid (fun w => hp_no m (pre 5) (at_no (i := 11) (by decide) hi 5 (by decide) (by decide)) w)
  have H6 := Lib.hid (fun w => hp_no m (pre 6) (at_no (i := 11) (by decide) hi 6 (by decide) (by decide)) w)
  have H7 := Lib.hid (fun w => hp_no m (pre 7) (at_no (i := 11) (by decide) hi 7 (by decide) (by decide)) w)
  have H9 := Lib.hid (fun w => hp_no m (pre 9) (at_no (i := 11) (by decide) hi 9 (by decide) (by decide)) w)
  have H10 := Lib.hid (fun w => hp_no m (pre 10) (at_no (i := 11) (by decide) hi 10 (by decide) (by decide)) w)
  have H11 := Lib.hid (fun w => hp_yes m (pre 11) hi w)
  have H12 := Lib.hid (fun w => hp_no m (pre 12) (at_no (i := 11) (by decide) hi 12 (by decide) (by decide)) w)
  have H13 := Lib.hid (fun w => hp_no m (pre 13) (at_no (i := 11) (by decide) hi 13 (by decide) (by decide)) w)
  have HU := Lib.hid (fun w => ct_no m unauth hz (by decide) hu w)
  have he : ¬ m.toList = ([69, 82, 82, 32, 109, 97, 120, 32, 110, 117, 109, 98, 101, 114, 32, 111, 102, 32, 99, 108, 105, 101, 110, 116, 115, 32, 114, 101, 97, 99, 104, 101, 100] : List UInt8) := fun h => at_no (i := 11) (by decide) hi 8 (by decide) (by decide) (at_self h)
  clear hi hu
  have he2 : (m.toList == ([69, 82, 82, 32, 109, 97, 120, 32, 110, 117, 109, 98, 101, 114, 32, 111, 102, 32, 99, 108, 105, 101, 110, 116, 115, 32, 114, 101, 97, 99, 104, 101, 100] : List UInt8)) = false := beq_false_of_ne he
  go_enter Tryz.func33, Tryz.ntmps33
  go_wp2_with fail
  refine (H0.out _).mono ?_
  rintro e w1 ⟨rfl, ⟨nd1, rfl⟩⟩
  go_wp2_with fail
  refine (H1.out _).mono ?_
  rintro e w2 ⟨rfl, ⟨nd2, rfl⟩⟩
  go_wp2_with fail
  refine (H2.out _).mono ?_
  rintro e w3 ⟨rfl, ⟨nd3, rfl⟩⟩
  go_wp2_with fail
  refine (H3.out _).mono ?_
  rintro e w4 ⟨rfl, ⟨nd4, rfl⟩⟩
  go_wp2_with fail
  refine (H4.out _).mono ?_
  rintro e w5 ⟨rfl, ⟨nd5, rfl⟩⟩
  go_wp2_with fail
  refine (H5.out _).mono ?_
  rintro e w6 ⟨rfl, ⟨nd6, rfl⟩⟩
  go_wp2_with fail
  refine (H6.out _).mono ?_
  rintro e w7 ⟨rfl, ⟨nd7, rfl⟩⟩
  go_wp2_with fail
  refine (H7.out _).mono ?_
  rintro e w8 ⟨rfl, ⟨nd8, rfl⟩⟩
  go_wp2_with fail
  refine (H9.out _).mono ?_
  rintro e w9 ⟨rfl, ⟨nd9, rfl⟩⟩
  go_wp2_with fail
  refine (H10.out _).mono ?_
  rintro e w10 ⟨rfl, ⟨nd10, rfl⟩⟩
  go_wp2_with fail
  refine (HU.out _).mono ?_
  rintro e w11 ⟨rfl, ⟨nd11, rfl⟩⟩
  go_wp2_with fail
  refine (H11.out _).mono ?_
  rintro e w12 ⟨rfl, ⟨nd12, rfl⟩⟩
  go_wp2_with fail
  refine (new_Permission m _).mono ?_
  rintro e wn ⟨rfl, rfl⟩
  go_wp2_with fail
  go_ret
  exact ⟨_, rfl, ⟨_, rfl, heap_alloc_new _ _⟩, below_alloc (pw_below_drewN (Below.refl _ _) _) _⟩
set_option maxHeartbeats 2000000 in
set_option maxRecDepth 100000 in
theorem parse_12 (m : ByteArray) (hz : m.size ≤ 1000) (hi : At (pre 12) m 0) (hu : ∀ j, ¬ At unauth m j) (w : World) : Calls Tryz.prog 33 #[.string m] w fun e w' => ParseR w m ⟨#[]⟩ 11 e w' := by
  have H0 := Lib.hid (fun w => hp_no m (pre 0) (at_no (i := 12) (by decide) hi 0 (by decide) (by decide)) w)
  have H1 := Lib.hid (fun w => hp_no m (pre 1) (at_no (i := 12) (by decide) hi 1 (by decide) (by decide)) w)
  have H2 := Lib.hid (fun w => hp_no m (pre 2) (at_no (i := 12) (by decide) hi 2 (by decide) (by decide)) w)
  have H3 := Lib.hid (fun w => hp_no m (pre 3) (at_no (i := 12) (by decide) hi 3 (by decide) (by decide)) w)
  have H4 := Lib.hid (fun w => hp_no m (pre 4) (at_no (i := 12) (by decide) hi 4 (by decide) (by decide)) w)
  have H5 := Lib.hid (fun w => hp_no m (pre 5) (at_no (i := 12) (by decide) hi 5 (by decide) (by decide)) w)
  have H6 := Lib.hid (fun w => hp_no m (pre 6) (at_no (i := 12) (by decide) hi 6 (by decide) (by decide)) w)
  have H7 := Lib.hid (fun w => hp_no m (pre 7) (at_no (i := 12) (by decide) hi 7 (by decide) (by decide)) w)
  have H9 := Lib.hid (fun w => hp_no m (pre 9) (at_no (i := 12) (by decide) hi 9 (by decide) (by decide)) w)
  have H10 := Lib.hid (fun w => hp_no m (pre 10) (at_no (i := 12) (by decide) hi 10 (by decide) (by decide)) w)
  have H11 := Lib.hid (fun w => hp_no m (pre 11) (at_no (i := 12) (by decide) hi 11 (by decide) (by decide)) w)
  have H12 := Lib.hid (fun w => hp_yes m (pre 12) hi w)
  have H13 := Lib.hid (fun w => hp_no m (pre 13) (at_no (i := 12) (by decide) hi 13 (by decide) (by decide)) w)
  have HU := Lib.hid (fun w => ct_no m unauth hz (by decide) hu w)
  have he : ¬ m.toList = ([69, 82, 82, 32, 109, 97, 120, 32, 110, 117, 109, 98, 101, 114, 32, 111, 102, 32, 99, 108, 105, 101, 110, 116, 115, 32, 114, 101, 97, 99, 104, 101, 100] : List UInt8) := fun h => at_no (i := 12) (by decide) hi 8 (by decide) (by decide) (at_self h)
  clear hi hu
  have he2 : (m.toList == ([69, 82, 82, 32, 109, 97, 120, 32, 110, 117, 109, 98, 101, 114, 32, 111, 102, 32, 99, 108, 105, 101, 110, 116, 115, 32, 114, 101, 97, 99, 104, 101, 100] : List UInt8)) = false := beq_false_of_ne he
  go_enter Tryz.func33, Tryz.ntmps33
  go_wp2_with fail
  refine (H0.out _).mono ?_
  rintro e w1 ⟨rfl, ⟨nd1, rfl⟩⟩
  go_wp2_with fail
  refine (H1.out _).mono ?_
  rintro e w2 ⟨rfl, ⟨nd2, rfl⟩⟩
  go_wp2_with fail
  refine (H2.out _).mono ?_
  rintro e w3 ⟨rfl, ⟨nd3, rfl⟩⟩
  go_wp2_with fail
  refine (H3.out _).mono ?_
  rintro e w4 ⟨rfl, ⟨nd4, rfl⟩⟩
  go_wp2_with fail
  refine (H4.out _).mono ?_
  rintro e w5 ⟨rfl, ⟨nd5, rfl⟩⟩
  go_wp2_with fail
  refine (H5.out _).mono ?_
  rintro e w6 ⟨rfl, ⟨nd6, rfl⟩⟩
  go_wp2_with fail
  refine (H6.out _).mono ?_
  rintro e w7 ⟨rfl, ⟨nd7, rfl⟩⟩
  go_wp2_with fail
  refine (H7.out _).mono ?_
  rintro e w8 ⟨rfl, ⟨nd8, rfl⟩⟩
  go_wp2_with fail
  refine (H9.out _).mono ?_
  rintro e w9 ⟨rfl, ⟨nd9, rfl⟩⟩
  go_wp2_with fail
  refine (H10.out _).mono ?_
  rintro e w10 ⟨rfl, ⟨nd10, rfl⟩⟩
  go_wp2_with fail
  refine (HU.out _).mono ?_
  rintro e w11 ⟨rfl, ⟨nd11, rfl⟩⟩
  go_wp2_with fail
  refine (H11.out _).mono ?_
  rintro e w12 ⟨rfl, ⟨nd12, rfl⟩⟩
  go_wp2_with fail
  refine (H12.out _).mono ?_
  rintro e w13 ⟨rfl, ⟨nd13, rfl⟩⟩
  go_wp2_with fail
  refine (new_ExecAbort m _).mono ?_
  rintro e wn ⟨rfl, rfl⟩
  go_wp2_with fail
  go_ret
  exact ⟨_, rfl, ⟨_, rfl, heap_alloc_new _ _⟩, below_alloc (pw_below_drewN (Below.refl _ _) _) _⟩
set_option maxHeartbeats 2000000 in
set_option maxRecDepth 100000 in
theorem parse_13 (m : ByteArray) (hz : m.size ≤ 1000) (hi : At (pre 13) m 0) (hu : ∀ j, ¬ At unauth m j) (w : World) : Calls Tryz.prog 33 #[.string m] w fun e w' => ParseR w m ⟨#[]⟩ 12 e w' := by
  have H0 := Lib.hid (fun w => hp_no m (pre 0) (at_no (i := 13) (by decide) hi 0 (by decide) (by decide)) w)
  have H1 := Lib.hid (fun w => hp_no m (pre 1) (at_no (i := 13) (by decide) hi 1 (by decide) (by decide)) w)
  have H2 := Lib.hid (fun w => hp_no m (pre 2) (at_no (i := 13) (by decide) hi 2 (by decide) (by decide)) w)
  have H3 := Lib.hid (fun w => hp_no m (pre 3) (at_no (i := 13) (by decide) hi 3 (by decide) (by decide)) w)
  have H4 := Lib.hid (fun w => hp_no m (pre 4) (at_no (i := 13) (by decide) hi 4 (by decide) (by decide)) w)
  have H5 := Lib.hid (fun w => hp_no m (pre 5) (at_no (i := 13) (by decide) hi 5 (by decide) (by decide)) w)
  have H6 := Lib.hid (fun w => hp_no m (pre 6) (at_no (i := 13) (by decide) hi 6 (by decide) (by decide)) w)
  have H7 := Lib.hid (fun w => hp_no m (pre 7) (at_no (i := 13) (by decide) hi 7 (by decide) (by decide)) w)
  have H9 := Lib.hid (fun w => hp_no m (pre 9) (at_no (i := 13) (by decide) hi 9 (by decide) (by decide)) w)
  have H10 := Lib.hid (fun w => hp_no m (pre 10) (at_no (i := 13) (by decide) hi 10 (by decide) (by decide)) w)
  have H11 := Lib.hid (fun w => hp_no m (pre 11) (at_no (i := 13) (by decide) hi 11 (by decide) (by decide)) w)
  have H12 := Lib.hid (fun w => hp_no m (pre 12) (at_no (i := 13) (by decide) hi 12 (by decide) (by decide)) w)
  have H13 := Lib.hid (fun w => hp_yes m (pre 13) hi w)
  have HU := Lib.hid (fun w => ct_no m unauth hz (by decide) hu w)
  have he : ¬ m.toList = ([69, 82, 82, 32, 109, 97, 120, 32, 110, 117, 109, 98, 101, 114, 32, 111, 102, 32, 99, 108, 105, 101, 110, 116, 115, 32, 114, 101, 97, 99, 104, 101, 100] : List UInt8) := fun h => at_no (i := 13) (by decide) hi 8 (by decide) (by decide) (at_self h)
  clear hi hu
  have he2 : (m.toList == ([69, 82, 82, 32, 109, 97, 120, 32, 110, 117, 109, 98, 101, 114, 32, 111, 102, 32, 99, 108, 105, 101, 110, 116, 115, 32, 114, 101, 97, 99, 104, 101, 100] : List UInt8)) = false := beq_false_of_ne he
  go_enter Tryz.func33, Tryz.ntmps33
  go_wp2_with fail
  refine (H0.out _).mono ?_
  rintro e w1 ⟨rfl, ⟨nd1, rfl⟩⟩
  go_wp2_with fail
  refine (H1.out _).mono ?_
  rintro e w2 ⟨rfl, ⟨nd2, rfl⟩⟩
  go_wp2_with fail
  refine (H2.out _).mono ?_
  rintro e w3 ⟨rfl, ⟨nd3, rfl⟩⟩
  go_wp2_with fail
  refine (H3.out _).mono ?_
  rintro e w4 ⟨rfl, ⟨nd4, rfl⟩⟩
  go_wp2_with fail
  refine (H4.out _).mono ?_
  rintro e w5 ⟨rfl, ⟨nd5, rfl⟩⟩
  go_wp2_with fail
  refine (H5.out _).mono ?_
  rintro e w6 ⟨rfl, ⟨nd6, rfl⟩⟩
  go_wp2_with fail
  refine (H6.out _).mono ?_
  rintro e w7 ⟨rfl, ⟨nd7, rfl⟩⟩
  go_wp2_with fail
  refine (H7.out _).mono ?_
  rintro e w8 ⟨rfl, ⟨nd8, rfl⟩⟩
  go_wp2_with fail
  refine (H9.out _).mono ?_
  rintro e w9 ⟨rfl, ⟨nd9, rfl⟩⟩
  go_wp2_with fail
  refine (H10.out _).mono ?_
  rintro e w10 ⟨rfl, ⟨nd10, rfl⟩⟩
  go_wp2_with fail
  refine (HU.out _).mono ?_
  rintro e w11 ⟨rfl, ⟨nd11, rfl⟩⟩
  go_wp2_with fail
  refine (H11.out _).mono ?_
  rintro e w12 ⟨rfl, ⟨nd12, rfl⟩⟩
  go_wp2_with fail
  refine (H12.out _).mono ?_
  rintro e w13 ⟨rfl, ⟨nd13, rfl⟩⟩
  go_wp2_with fail
  refine (H13.out _).mono ?_
  rintro e w14 ⟨rfl, ⟨nd14, rfl⟩⟩
  go_wp2_with fail
  refine (new_OOM m _).mono ?_
  rintro e wn ⟨rfl, rfl⟩
  go_wp2_with fail
  go_ret
  exact ⟨_, rfl, ⟨_, rfl, heap_alloc_new _ _⟩, below_alloc (pw_below_drewN (Below.refl _ _) _) _⟩
set_option maxHeartbeats 2000000 in
set_option maxRecDepth 100000 in
theorem parse_14 (m : ByteArray) (hz : m.size ≤ 1000) (hi : At (pre 8) m 0) (he : ¬ m.toList = ([69, 82, 82, 32, 109, 97, 120, 32, 110, 117, 109, 98, 101, 114, 32, 111, 102, 32, 99, 108, 105, 101, 110, 116, 115, 32, 114, 101, 97, 99, 104, 101, 100] : List UInt8)) (hu : ∀ j, ¬ At unauth m j) (w : World) : Calls Tryz.prog 33 #[.string m] w fun e w' => ParseR w m ⟨#[]⟩ 13 e w' := by
  have H0 := Lib.hid (fun w => hp_no m (pre 0) (at_no (i := 8) (by decide) hi 0 (by decide) (by decide)) w)
  have H1 := Lib.hid (fun w => hp_no m (pre 1) (at_no (i := 8) (by decide) hi 1 (by decide) (by decide)) w)
  have H2 := Lib.hid (fun w => hp_no m (pre 2) (at_no (i := 8) (by decide) hi 2 (by decide) (by decide)) w)
  have H3 := Lib.hid (fun w => hp_no m (pre 3) (at_no (i := 8) (by decide) hi 3 (by decide) (by decide)) w)
  have H4 := Lib.hid (fun w => hp_no m (pre 4) (at_no (i := 8) (by decide) hi 4 (by decide) (by decide)) w)
  have H5 := Lib.hid (fun w => hp_no m (pre 5) (at_no (i := 8) (by decide) hi 5 (by decide) (by decide)) w)
  have H6 := Lib.hid (fun w => hp_no m (pre 6) (at_no (i := 8) (by decide) hi 6 (by decide) (by decide)) w)
  have H7 := Lib.hid (fun w => hp_no m (pre 7) (at_no (i := 8) (by decide) hi 7 (by decide) (by decide)) w)
  have H9 := Lib.hid (fun w => hp_no m (pre 9) (at_no (i := 8) (by decide) hi 9 (by decide) (by decide)) w)
  have H10 := Lib.hid (fun w => hp_no m (pre 10) (at_no (i := 8) (by decide) hi 10 (by decide) (by decide)) w)
  have H11 := Lib.hid (fun w => hp_no m (pre 11) (at_no (i := 8) (by decide) hi 11 (by decide) (by decide)) w)
  have H12 := Lib.hid (fun w => hp_no m (pre 12) (at_no (i := 8) (by decide) hi 12 (by decide) (by decide)) w)
  have H13 := Lib.hid (fun w => hp_no m (pre 13) (at_no (i := 8) (by decide) hi 13 (by decide) (by decide)) w)
  have HU := Lib.hid (fun w => ct_no m unauth hz (by decide) hu w)
  clear hi hu
  have he2 : (m.toList == ([69, 82, 82, 32, 109, 97, 120, 32, 110, 117, 109, 98, 101, 114, 32, 111, 102, 32, 99, 108, 105, 101, 110, 116, 115, 32, 114, 101, 97, 99, 104, 101, 100] : List UInt8)) = false := beq_false_of_ne he
  go_enter Tryz.func33, Tryz.ntmps33
  go_wp2_with fail
  refine (H0.out _).mono ?_
  rintro e w1 ⟨rfl, ⟨nd1, rfl⟩⟩
  go_wp2_with fail
  refine (H1.out _).mono ?_
  rintro e w2 ⟨rfl, ⟨nd2, rfl⟩⟩
  go_wp2_with fail
  refine (H2.out _).mono ?_
  rintro e w3 ⟨rfl, ⟨nd3, rfl⟩⟩
  go_wp2_with fail
  refine (H3.out _).mono ?_
  rintro e w4 ⟨rfl, ⟨nd4, rfl⟩⟩
  go_wp2_with fail
  refine (H4.out _).mono ?_
  rintro e w5 ⟨rfl, ⟨nd5, rfl⟩⟩
  go_wp2_with fail
  refine (H5.out _).mono ?_
  rintro e w6 ⟨rfl, ⟨nd6, rfl⟩⟩
  go_wp2_with fail
  refine (H6.out _).mono ?_
  rintro e w7 ⟨rfl, ⟨nd7, rfl⟩⟩
  go_wp2_with fail
  refine (H7.out _).mono ?_
  rintro e w8 ⟨rfl, ⟨nd8, rfl⟩⟩
  go_wp2_with fail
  refine (H9.out _).mono ?_
  rintro e w9 ⟨rfl, ⟨nd9, rfl⟩⟩
  go_wp2_with fail
  refine (H10.out _).mono ?_
  rintro e w10 ⟨rfl, ⟨nd10, rfl⟩⟩
  go_wp2_with fail
  refine (HU.out _).mono ?_
  rintro e w11 ⟨rfl, ⟨nd11, rfl⟩⟩
  go_wp2_with fail
  refine (H11.out _).mono ?_
  rintro e w12 ⟨rfl, ⟨nd12, rfl⟩⟩
  go_wp2_with fail
  refine (H12.out _).mono ?_
  rintro e w13 ⟨rfl, ⟨nd13, rfl⟩⟩
  go_wp2_with fail
  refine (H13.out _).mono ?_
  rintro e w14 ⟨rfl, ⟨nd14, rfl⟩⟩
  go_wp2_with fail
  go_ret
  exact ⟨_, rfl, rfl, pw_below_drewN (Below.refl _ _) _⟩
set_option maxHeartbeats 2000000 in
set_option maxRecDepth 100000 in
theorem parse_15 (m : ByteArray) (hz : m.size ≤ 1000) (hno : ∀ i, i < 14 → ¬ At (pre i) m 0) (hu : ∀ j, ¬ At unauth m j) (w : World) : Calls Tryz.prog 33 #[.string m] w fun e w' => ParseR w m ⟨#[]⟩ 13 e w' := by
  have H0 := Lib.hid (fun w => hp_no m (pre 0) (hno 0 (by decide)) w)
  have H1 := Lib.hid (fun w => hp_no m (pre 1) (hno 1 (by decide)) w)
  have H2 := Lib.hid (fun w => hp_no m (pre 2) (hno 2 (by decide)) w)
  have H3 := Lib.hid (fun w => hp_no m (pre 3) (hno 3 (by decide)) w)
  have H4 := Lib.hid (fun w => hp_no m (pre 4) (hno 4 (by decide)) w)
  have H5 := Lib.hid (fun w => hp_no m (pre 5) (hno 5 (by decide)) w)
  have H6 := Lib.hid (fun w => hp_no m (pre 6) (hno 6 (by decide)) w)
  have H7 := Lib.hid (fun w => hp_no m (pre 7) (hno 7 (by decide)) w)
  have H9 := Lib.hid (fun w => hp_no m (pre 9) (hno 9 (by decide)) w)
  have H10 := Lib.hid (fun w => hp_no m (pre 10) (hno 10 (by decide)) w)
  have H11 := Lib.hid (fun w => hp_no m (pre 11) (hno 11 (by decide)) w)
  have H12 := Lib.hid (fun w => hp_no m (pre 12) (hno 12 (by decide)) w)
  have H13 := Lib.hid (fun w => hp_no m (pre 13) (hno 13 (by decide)) w)
  have HU := Lib.hid (fun w => ct_no m unauth hz (by decide) hu w)
  have he : ¬ m.toList = ([69, 82, 82, 32, 109, 97, 120, 32, 110, 117, 109, 98, 101, 114, 32, 111, 102, 32, 99, 108, 105, 101, 110, 116, 115, 32, 114, 101, 97, 99, 104, 101, 100] : List UInt8) := fun h => hno 8 (by decide) (at_self h)
  clear hno hu
  have he2 : (m.toList == ([69, 82, 82, 32, 109, 97, 120, 32, 110, 117, 109, 98, 101, 114, 32, 111, 102, 32, 99, 108, 105, 101, 110, 116, 115, 32, 114, 101, 97, 99, 104, 101, 100] : List UInt8)) = false := beq_false_of_ne he
  go_enter Tryz.func33, Tryz.ntmps33
  go_wp2_with fail
  refine (H0.out _).mono ?_
  rintro e w1 ⟨rfl, ⟨nd1, rfl⟩⟩
  go_wp2_with fail
  refine (H1.out _).mono ?_
  rintro e w2 ⟨rfl, ⟨nd2, rfl⟩⟩
  go_wp2_with fail
  refine (H2.out _).mono ?_
  rintro e w3 ⟨rfl, ⟨nd3, rfl⟩⟩
  go_wp2_with fail
  refine (H3.out _).mono ?_
  rintro e w4 ⟨rfl, ⟨nd4, rfl⟩⟩
  go_wp2_with fail
  refine (H4.out _).mono ?_
  rintro e w5 ⟨rfl, ⟨nd5, rfl⟩⟩
  go_wp2_with fail
  refine (H5.out _).mono ?_
  rintro e w6 ⟨rfl, ⟨nd6, rfl⟩⟩
  go_wp2_with fail
  refine (H6.out _).mono ?_
  rintro e w7 ⟨rfl, ⟨nd7, rfl⟩⟩
  go_wp2_with fail
  refine (H7.out _).mono ?_
  rintro e w8 ⟨rfl, ⟨nd8, rfl⟩⟩
  go_wp2_with fail
  refine (H9.out _).mono ?_
  rintro e w9 ⟨rfl, ⟨nd9, rfl⟩⟩
  go_wp2_with fail
  refine (H10.out _).mono ?_
  rintro e w10 ⟨rfl, ⟨nd10, rfl⟩⟩
  go_wp2_with fail
  refine (HU.out _).mono ?_
  rintro e w11 ⟨rfl, ⟨nd11, rfl⟩⟩
  go_wp2_with fail
  refine (H11.out _).mono ?_
  rintro e w12 ⟨rfl, ⟨nd12, rfl⟩⟩
  go_wp2_with fail
  refine (H12.out _).mono ?_
  rintro e w13 ⟨rfl, ⟨nd13, rfl⟩⟩
  go_wp2_with fail
  refine (H13.out _).mono ?_
  rintro e w14 ⟨rfl, ⟨nd14, rfl⟩⟩
  go_wp2_with fail
  go_ret
  exact ⟨_, rfl, rfl, pw_below_drewN (Below.refl _ _) _⟩
end Go.Proofs.YtkogipaaioibaaaGreat

namespace Go.Proofs.YtkogipaaioibaaaGreat
set_option linter.unusedVariables false
set_option linter.unusedSimpArgs false
open Go.RowKit Go.Proofs.YtkogipaaioibaaaGreatW.PrintWords
open PAll (info9)

/-- The variable kb holds a list of texts in a row of its own from B on. -/
def KS (w : World) (B kb : Nat) (xs : List ByteArray) : Prop := ∃ v, w.heap[kb]? = some (.cells #[v] 24 (0, 0)) ∧ Kd.R Kd.string 9 w B (fun _ => True) v xs
/-- What adding leaves alone. -/
structure FrS (B kb : Nat) (w w' : World) : Prop where
  os : w'.os = w.os
  tape : w'.tape = w.tape
  output : w'.output = w.output
  size : w.heap.size ≤ w'.heap.size
  blk : ∀ i, i < w.heap.size → i ≠ kb → (i < B ∨ ∀ cs fr, w.heap[i]? ≠ some (.cells cs 9 fr)) → w'.heap[i]? = w.heap[i]?
theorem FrS.refl (B kb : Nat) (w : World) : FrS B kb w w := ⟨rfl, rfl, rfl, Nat.le_refl _, fun _ _ _ _ => rfl⟩
theorem KS.below {w w' : World} {B kb : Nat} {xs : List ByteArray} (h : KS w B kb xs) (hb : Below w.heap.size w w') : KS w' B kb xs := by
  obtain ⟨v, h1, h2⟩ := h
  exact ⟨v, blk_below h1 hb, Kd.R_below h2 hb⟩
/-- What adding leaves. -/
def AddR (B kb : Nat) (xs : List ByteArray) (w : World) (e : Ending) (w' : World) : Prop := e = .returned (.tuple #[]) ∧ KS w' B kb xs ∧ FrS B kb w w'
set_option maxHeartbeats 2000000 in
set_option maxRecDepth 100000 in
theorem add_no (B kb : Nat) (xs : List ByteArray) (name : ByteArray) (w : World) (h : KS w B kb xs) :
    Calls Tryz.prog 15 #[.string name, .bool false, .pointer (some ⟨kb, 0, none⟩)] w fun e w' => AddR B kb xs w e w' := by
  have H := Lib.hid h
  clear h
  go_enter Tryz.func15, Tryz.ntmps15
  go_wp2_with fail
  go_end0
  exact ⟨rfl, H.out, FrS.refl _ _ _⟩
set_option maxHeartbeats 2000000 in
set_option maxRecDepth 100000 in
theorem add_yes (B kb : Nat) (xs : List ByteArray) (name : ByteArray) (w : World) (h : KS w B kb xs) (hx : xs.length ≤ 1000) (hB : B ≤ w.heap.size) (hkb : kb < B) :
    Calls Tryz.prog 15 #[.string name, .bool true, .pointer (some ⟨kb, 0, none⟩)] w fun e w' => AddR B kb (xs ++ [name]) w e w' := by
  obtain ⟨v, h1, h2⟩ := h
  have c0 : w.cell? ⟨kb, 0, none⟩ = some v := blk_cell h1 0
  have hlt := blk_lt h1
  have HR := Lib.hid h2
  have H1 := Lib.hid h1
  have HX := Lib.hid hx
  clear h2 h1 hx
  go_enter Tryz.func15, Tryz.ntmps15
  go_wp2_with (first | ((with_reducible refine gate_builtin (b := .append) (xs := #[.tmp 6, .tmp 8]) rfl ?_); at_builtin; refine Kd.R_append Kd.string (w0 := w) B rfl (.tmp 6) (.tmp 8) 24 9 (.string ⟨#[]⟩) 16 rfl Tryz.underlying24 info9 rfl (by decide) (by omega) v xs name [.string name] (fun _ => True) (fun _ => False) rfl rfl ?aP (fun _ hk => hk.elim) ?aF ?aO ?aB ?aS ?aL ?_; (case aP => exact rfl); (case aB => exact Below.refl _ _); (case aF => exact (fun _ _ => trivial)); (case aO => exact HR.out); (case aS => exact hB); (case aL => have := HX.out; omega); intro v1 w1 ho hb hg hat; obtain ⟨A1, cc1, rfl⟩ := Kd.R_slice ho; have hb1 := blk_grown H1.out hg (Kd.R_ne HR.out H1.out (by decide)); have f1 := blk_frozen hb1 0; have c1 : w1.cell? ⟨kb, 0, none⟩ = some v := blk_cell hb1 0; have HO := Lib.hid ho; have HG := Lib.hid hg; have HB1 := Lib.hid hb1; have hz1 := blk_lt hb1; clear ho hb hg hat hb1))
  go_end0
  refine ⟨rfl, ⟨_, by simpa using blk_set HB1.out 0 _, Kd.R_set HO.out HB1.out (by intro q hq; simp [Kd.string, Kd.scalar] at hq; subst hq; decide) 0 _⟩, ?_⟩
  have hg := HG.out
  refine ⟨hg.os, hg.tape, hg.output, by simpa [World.setCell] using hg.size, fun i hi hn hk => (Below.heap_setCell w1 _ _ i (by show i ≠ kb; exact hn)).trans (hg.block i hi (fun e => ?_))⟩
  obtain ⟨_, hb, _, q, hq, cells, hq2⟩ := (Kd.R_bound HR.out).1 i e.symm
  obtain rfl : q = 9 := by simpa [Kd.string, Kd.scalar] using hq
  rcases hk with hk | hk
  · omega
  · exact hk _ _ hq2
/-- What adding does, whatever it is told. -/
theorem add_any (B kb : Nat) (xs : List ByteArray) (name : ByteArray) (b : Bool) (w : World) (h : KS w B kb xs) (hx : xs.length ≤ 1000) (hB : B ≤ w.heap.size) (hkb : kb < B) :
    Calls Tryz.prog 15 #[.string name, .bool b, .pointer (some ⟨kb, 0, none⟩)] w fun e w' => AddR B kb (xs ++ if b = true then [name] else []) w e w' := by
  cases b with
  | true => exact add_yes B kb xs name w h hx hB hkb
  | false => simpa using add_no B kb xs name w h
end Go.Proofs.YtkogipaaioibaaaGreat
