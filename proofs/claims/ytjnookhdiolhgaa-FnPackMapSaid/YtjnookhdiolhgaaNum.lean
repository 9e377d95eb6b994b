/- The packer's methods for numbers of a kind, and impl.PackNumber. -/
import Derived.Test.YtjnookhdiolhgaaPackA
namespace Go.Proofs.Ytjnookhdiolhgaa
set_option linter.unusedVariables false
set_option linter.unusedSimpArgs false
open Go.RowKit Go.Proofs.YtjnookhdiolhgaaW.PrintWords
open PAll (info5 S26 k26)

set_option maxHeartbeats 1000000 in
set_option maxRecDepth 100000 in
theorem num_int {B bp : Nat} {xs : List Int} (i : Int) (w : World) (h : PB w B bp xs) (hB : B ≤ w.heap.size) (hl : xs.length ≤ 1099511627776) (h0 : -9223372036854775808 ≤ i) (h1 : i ≤ 9223372036854775807) :
    Calls Try.prog 78 #[.pointer (some ⟨bp, 0, none⟩), .int .i64 i] w fun e w' => e = .returned (.tuple #[]) ∧ PB w' B bp (xs ++ encInt i) ∧ Fr B bp w w' := by
  have HC := Lib.hid (pk_int i w h hB hl (by omega) (by omega))
  have hwi : IntKind.i64.wrap i = i := by rw [IntKind.wrap_i64]; omega
  clear h h0 h1
  go_enter Try.func78, Try.ntmps78
  go_wp2_with fail
  refine (HC.out).mono ?_
  rintro e w1 ⟨rfl, hp, hf⟩
  have HP := Lib.hid (And.intro hp hf)
  clear hp hf
  go_wp2_with fail
  go_end0
  exact ⟨rfl, HP.out.1, HP.out.2⟩

set_option maxHeartbeats 1000000 in
set_option maxRecDepth 100000 in
theorem num_i8 {B bp : Nat} {xs : List Int} (i : Int) (w : World) (h : PB w B bp xs) (hB : B ≤ w.heap.size) (hl : xs.length ≤ 1099511627776) (h0 : -128 ≤ i) (h1 : i ≤ 127) :
    Calls Try.prog 79 #[.pointer (some ⟨bp, 0, none⟩), .int .i8 i] w fun e w' => e = .returned (.tuple #[]) ∧ PB w' B bp (xs ++ encInt i) ∧ Fr B bp w w' := by
  have HC := Lib.hid (pk_int i w h hB hl (by omega) (by omega))
  have hwi : IntKind.i64.wrap i = i := by rw [IntKind.wrap_i64]; omega
  clear h h0 h1
  go_enter Try.func79, Try.ntmps79
  go_wp2_with fail
  refine (HC.out).mono ?_
  rintro e w1 ⟨rfl, hp, hf⟩
  have HP := Lib.hid (And.intro hp hf)
  clear hp hf
  go_wp2_with fail
  go_end0
  exact ⟨rfl, HP.out.1, HP.out.2⟩

set_option maxHeartbeats 1000000 in
set_option maxRecDepth 100000 in
theorem num_i16 {B bp : Nat} {xs : List Int} (i : Int) (w : World) (h : PB w B bp xs) (hB : B ≤ w.heap.size) (hl : xs.length ≤ 1099511627776) (h0 : -32768 ≤ i) (h1 : i ≤ 32767) :
    Calls Try.prog 80 #[.pointer (some ⟨bp, 0, none⟩), .int .i16 i] w fun e w' => e = .returned (.tuple #[]) ∧ PB w' B bp (xs ++ encInt i) ∧ Fr B bp w w' := by
  have HC := Lib.hid (pk_int i w h hB hl (by omega) (by omega))
  have hwi : IntKind.i64.wrap i = i := by rw [IntKind.wrap_i64]; omega
  clear h h0 h1
  go_enter Try.func80, Try.ntmps80
  go_wp2_with fail
  refine (HC.out).mono ?_
  rintro e w1 ⟨rfl, hp, hf⟩
  have HP := Lib.hid (And.intro hp hf)
  clear hp hf
  go_wp2_with fail
  go_end0
  exact ⟨rfl, HP.out.1, HP.out.2⟩

set_option maxHeartbeats 1000000 in
set_option maxRecDepth 100000 in
theorem num_i32 {B bp : Nat} {xs : List Int} (i : Int) (w : World) (h : PB w B bp xs) (hB : B ≤ w.heap.size) (hl : xs.length ≤ 1099511627776) (h0 : -2147483648 ≤ i) (h1 : i ≤ 2147483647) :
    Calls Try.prog 81 #[.pointer (some ⟨bp, 0, none⟩), .int .i32 i] w fun e w' => e = .returned (.tuple #[]) ∧ PB w' B bp (xs ++ encInt i) ∧ Fr B bp w w' := by
  have HC := Lib.hid (pk_int i w h hB hl (by omega) (by omega))
  have hwi : IntKind.i64.wrap i = i := by rw [IntKind.wrap_i64]; omega
  clear h h0 h1
  go_enter Try.func81, Try.ntmps81
  go_wp2_with fail
  refine (HC.out).mono ?_
  rintro e w1 ⟨rfl, hp, hf⟩
  have HP := Lib.hid (And.intro hp hf)
  clear hp hf
  go_wp2_with fail
  go_end0
  exact ⟨rfl, HP.out.1, HP.out.2⟩

set_option maxHeartbeats 1000000 in
set_option maxRecDepth 100000 in
theorem num_u8 {B bp : Nat} {xs : List Int} (i : Int) (w : World) (h : PB w B bp xs) (hB : B ≤ w.heap.size) (hl : xs.length ≤ 1099511627776) (h0 : 0 ≤ i) (h1 : i ≤ 255) :
    Calls Try.prog 83 #[.pointer (some ⟨bp, 0, none⟩), .int .u8 i] w fun e w' => e = .returned (.tuple #[]) ∧ PB w' B bp (xs ++ encInt i) ∧ Fr B bp w w' := by
  have HC := Lib.hid (pk_int i w h hB hl (by omega) (by omega))
  have hwi : IntKind.i64.wrap i = i := by rw [IntKind.wrap_i64]; omega
  clear h h0 h1
  go_enter Try.func83, Try.ntmps83
  go_wp2_with fail
  refine (HC.out).mono ?_
  rintro e w1 ⟨rfl, hp, hf⟩
  have HP := Lib.hid (And.intro hp hf)
  clear hp hf
  go_wp2_with fail
  go_end0
  exact ⟨rfl, HP.out.1, HP.out.2⟩

set_option maxHeartbeats 1000000 in
set_option maxRecDepth 100000 in
theorem num_u16 {B bp : Nat} {xs : List Int} (i : Int) (w : World) (h : PB w B bp xs) (hB : B ≤ w.heap.size) (hl : xs.length ≤ 1099511627776) (h0 : 0 ≤ i) (h1 : i ≤ 65535) :
    Calls Try.prog 84 #[.pointer (some ⟨bp, 0, none⟩), .int .u16 i] w fun e w' => e = .returned (.tuple #[]) ∧ PB w' B bp (xs ++ encInt i) ∧ Fr B bp w w' := by
  have HC := Lib.hid (pk_int i w h hB hl (by omega) (by omega))
  have hwi : IntKind.i64.wrap i = i := by rw [IntKind.wrap_i64]; omega
  clear h h0 h1
  go_enter Try.func84, Try.ntmps84
  go_wp2_with fail
  refine (HC.out).mono ?_
  rintro e w1 ⟨rfl, hp, hf⟩
  have HP := Lib.hid (And.intro hp hf)
  clear hp hf
  go_wp2_with fail
  go_end0
  exact ⟨rfl, HP.out.1, HP.out.2⟩

set_option maxHeartbeats 1000000 in
set_option maxRecDepth 100000 in
theorem num_u32 {B bp : Nat} {xs : List Int} (i : Int) (w : World) (h : PB w B bp xs) (hB : B ≤ w.heap.size) (hl : xs.length ≤ 1099511627776) (h0 : 0 ≤ i) (h1 : i ≤ 4294967295) :
    Calls Try.prog 85 #[.pointer (some ⟨bp, 0, none⟩), .int .u32 i] w fun e w' => e = .returned (.tuple #[]) ∧ PB w' B bp (xs ++ encInt i) ∧ Fr B bp w w' := by
  have HC := Lib.hid (pk_int i w h hB hl (by omega) (by omega))
  have hwi : IntKind.i64.wrap i = i := by rw [IntKind.wrap_i64]; omega
  clear h h0 h1
  go_enter Try.func85, Try.ntmps85
  go_wp2_with fail
  refine (HC.out).mono ?_
  rintro e w1 ⟨rfl, hp, hf⟩
  have HP := Lib.hid (And.intro hp hf)
  clear hp hf
  go_wp2_with fail
  go_end0
  exact ⟨rfl, HP.out.1, HP.out.2⟩

set_option maxHeartbeats 1000000 in
set_option maxRecDepth 100000 in
theorem over_any {a : Value} (i : Int) (w : World) (h1 : i ≤ 9223372036854775807) :
    Calls Try.prog 124 #[a, .int .u64 i] w fun e w' => e = .returned (.tuple #[]) ∧ w' = w := by
  have hd : decide (i > 9223372036854775807) = false := decide_eq_false (by omega)
  clear h1
  go_enter Try.func124, Try.ntmps124
  go_wp2_with fail
  go_end0
  exact ⟨rfl, rfl⟩
set_option maxHeartbeats 1000000 in
set_option maxRecDepth 100000 in
theorem num_u64 {B bp : Nat} {xs : List Int} (i : Int) (w : World) (h : PB w B bp xs) (hB : B ≤ w.heap.size) (hl : xs.length ≤ 1099511627776) (h0 : 0 ≤ i) (h1 : i ≤ 9223372036854775807) :
    Calls Try.prog 86 #[.pointer (some ⟨bp, 0, none⟩), .int .u64 i] w fun e w' => e = .returned (.tuple #[]) ∧ PB w' B bp (xs ++ encInt i) ∧ Fr B bp w w' := by
  have HC := Lib.hid (pk_int i w h hB hl (by omega) (by omega))
  have HV := Lib.hid (fun a : Value => over_any (a := a) i w h1)
  have hwi : IntKind.i64.wrap i = i := by rw [IntKind.wrap_i64]; omega
  clear h h0 h1
  go_enter Try.func86, Try.ntmps86
  go_wp2_with fail
  refine (HV.out _).mono ?_
  rintro e w1 ⟨rfl, rfl⟩
  go_wp2_with fail
  refine (HC.out).mono ?_
  rintro e w1 ⟨rfl, hp, hf⟩
  have HP := Lib.hid (And.intro hp hf)
  clear hp hf
  go_wp2_with fail
  go_end0
  exact ⟨rfl, HP.out.1, HP.out.2⟩

set_option maxHeartbeats 1000000 in
set_option maxRecDepth 100000 in
theorem number0 (n : Int) (w : World) (h0 : -9223372036854775808 ≤ n) (h1 : n ≤ 9223372036854775807) :
    Calls Try.prog 38 #[.int .i64 0, .int .i64 n, .int .u64 (IntKind.u64.wrap n)] w fun e w' => e = .returned (.tuple #[.string (strOfNums (encInt n)), .int .i64 0]) ∧ Below w.heap.size w w' := by
  have HC := Lib.hid (fun (wi : World) (hb : Below w.heap.size w wi) (hp : PB wi w.heap.size w.heap.size []) => num_int (B := w.heap.size) (bp := w.heap.size) (xs := []) n wi hp hb.size (by simp) (by omega) (by omega))
  clear h0 h1
  go_enter Try.func38, Try.ntmps38
  go_wp2_with fail
  refine (pk_begin _ (heap_alloc_new w _)).mono ?_
  rintro e w1 ⟨rfl, hb1, hg1⟩
  have HBE := Lib.hid ((below_alloc (Below.refl w.heap.size w) _).grown hg1 (by simp) (by rintro k hk; injection hk with hk; omega))
  have HP := Lib.hid (show PB w1 w.heap.size w.heap.size [] from ⟨.slice none 0 0, hb1, own_nil _ _ _ _⟩)
  clear hb1 hg1
  go_wp2_with fail
  refine (HC.out _ HBE.out HP.out).mono ?_
  rintro e w2 ⟨rfl, hp2, hf2⟩
  rw [List.nil_append] at hp2
  have HP2 := Lib.hid hp2
  have HF2 := Lib.hid (HBE.out.trans (hf2.below (by omega) HBE.out.size))
  clear hp2 hf2 HC HP
  go_wp2_with fail
  refine (ended_any _ HP2.out).mono ?_
  rintro e w3 ⟨rfl, ⟨nd, rfl⟩⟩
  go_wp2_with fail
  go_ret2
  exact ⟨rfl, pw_below_drewN HF2.out nd⟩

set_option maxHeartbeats 1000000 in
set_option maxRecDepth 100000 in
theorem number1 (n : Int) (w : World) (h0 : -128 ≤ n) (h1 : n ≤ 127) :
    Calls Try.prog 38 #[.int .i64 1, .int .i64 n, .int .u64 (IntKind.u64.wrap n)] w fun e w' => e = .returned (.tuple #[.string (strOfNums (encInt n)), .int .i64 0]) ∧ Below w.heap.size w w' := by
  have hwk : IntKind.i8.wrap n = n := by simp only [IntKind.wrap]; simp (config := { decide := true }) [IntKind.bits, IntKind.signed]; omega
  have HC := Lib.hid (fun (wi : World) (hb : Below w.heap.size w wi) (hp : PB wi w.heap.size w.heap.size []) => num_i8 (B := w.heap.size) (bp := w.heap.size) (xs := []) n wi hp hb.size (by simp) (by omega) (by omega))
  clear h0 h1
  go_enter Try.func38, Try.ntmps38
  go_wp2_with fail
  refine (pk_begin _ (heap_alloc_new w _)).mono ?_
  rintro e w1 ⟨rfl, hb1, hg1⟩
  have HBE := Lib.hid ((below_alloc (Below.refl w.heap.size w) _).grown hg1 (by simp) (by rintro k hk; injection hk with hk; omega))
  have HP := Lib.hid (show PB w1 w.heap.size w.heap.size [] from ⟨.slice none 0 0, hb1, own_nil _ _ _ _⟩)
  clear hb1 hg1
  go_wp2_with fail
  refine (HC.out _ HBE.out HP.out).mono ?_
  rintro e w2 ⟨rfl, hp2, hf2⟩
  rw [List.nil_append] at hp2
  have HP2 := Lib.hid hp2
  have HF2 := Lib.hid (HBE.out.trans (hf2.below (by omega) HBE.out.size))
  clear hp2 hf2 HC HP
  go_wp2_with fail
  refine (ended_any _ HP2.out).mono ?_
  rintro e w3 ⟨rfl, ⟨nd, rfl⟩⟩
  go_wp2_with fail
  go_ret2
  exact ⟨rfl, pw_below_drewN HF2.out nd⟩

set_option maxHeartbeats 1000000 in
set_option maxRecDepth 100000 in
theorem number2 (n : Int) (w : World) (h0 : -32768 ≤ n) (h1 : n ≤ 32767) :
    Calls Try.prog 38 #[.int .i64 2, .int .i64 n, .int .u64 (IntKind.u64.wrap n)] w fun e w' => e = .returned (.tuple #[.string (strOfNums (encInt n)), .int .i64 0]) ∧ Below w.heap.size w w' := by
  have hwk : IntKind.i16.wrap n = n := by simp only [IntKind.wrap]; simp (config := { decide := true }) [IntKind.bits, IntKind.signed]; omega
  have HC := Lib.hid (fun (wi : World) (hb : Below w.heap.size w wi) (hp : PB wi w.heap.size w.heap.size []) => num_i16 (B := w.heap.size) (bp := w.heap.size) (xs := []) n wi hp hb.size (by simp) (by omega) (by omega))
  clear h0 h1
  go_enter Try.func38, Try.ntmps38
  go_wp2_with fail
  refine (pk_begin _ (heap_alloc_new w _)).mono ?_
  rintro e w1 ⟨rfl, hb1, hg1⟩
  have HBE := Lib.hid ((below_alloc (Below.refl w.heap.size w) _).grown hg1 (by simp) (by rintro k hk; injection hk with hk; omega))
  have HP := Lib.hid (show PB w1 w.heap.size w.heap.size [] from ⟨.slice none 0 0, hb1, own_nil _ _ _ _⟩)
  clear hb1 hg1
  go_wp2_with fail
  refine (HC.out _ HBE.out HP.out).mono ?_
  rintro e w2 ⟨rfl, hp2, hf2⟩
  rw [List.nil_append] at hp2
  have HP2 := Lib.hid hp2
  have HF2 := Lib.hid (HBE.out.trans (hf2.below (by omega) HBE.out.size))
  clear hp2 hf2 HC HP
  go_wp2_with fail
  refine (ended_any _ HP2.out).mono ?_
  rintro e w3 ⟨rfl, ⟨nd, rfl⟩⟩
  go_wp2_with fail
  go_ret2
  exact ⟨rfl, pw_below_drewN HF2.out nd⟩

set_option maxHeartbeats 1000000 in
set_option maxRecDepth 100000 in
theorem number3 (n : Int) (w : World) (h0 : -2147483648 ≤ n) (h1 : n ≤ 2147483647) :
    Calls Try.prog 38 #[.int .i64 3, .int .i64 n, .int .u64 (IntKind.u64.wrap n)] w fun e w' => e = .returned (.tuple #[.string (strOfNums (encInt n)), .int .i64 0]) ∧ Below w.heap.size w w' := by
  have hwk : IntKind.i32.wrap n = n := by rw [IntKind.wrap_i32]; omega
  have HC := Lib.hid (fun (wi : World) (hb : Below w.heap.size w wi) (hp : PB wi w.heap.size w.heap.size []) => num_i32 (B := w.heap.size) (bp := w.heap.size) (xs := []) n wi hp hb.size (by simp) (by omega) (by omega))
  clear h0 h1
  go_enter Try.func38, Try.ntmps38
  go_wp2_with fail
  refine (pk_begin _ (heap_alloc_new w _)).mono ?_
  rintro e w1 ⟨rfl, hb1, hg1⟩
  have HBE := Lib.hid ((below_alloc (Below.refl w.heap.size w) _).grown hg1 (by simp) (by rintro k hk; injection hk with hk; omega))
  have HP := Lib.hid (show PB w1 w.heap.size w.heap.size [] from ⟨.slice none 0 0, hb1, own_nil _ _ _ _⟩)
  clear hb1 hg1
  go_wp2_with fail
  refine (HC.out _ HBE.out HP.out).mono ?_
  rintro e w2 ⟨rfl, hp2, hf2⟩
  rw [List.nil_append] at hp2
  have HP2 := Lib.hid hp2
  have HF2 := Lib.hid (HBE.out.trans (hf2.below (by omega) HBE.out.size))
  clear hp2 hf2 HC HP
  go_wp2_with fail
  refine (ended_any _ HP2.out).mono ?_
  rintro e w3 ⟨rfl, ⟨nd, rfl⟩⟩
  go_wp2_with fail
  go_ret2
  exact ⟨rfl, pw_below_drewN HF2.out nd⟩

set_option maxHeartbeats 1000000 in
set_option maxRecDepth 100000 in
theorem number4 (n : Int) (w : World) (h0 : -9223372036854775808 ≤ n) (h1 : n ≤ 9223372036854775807) :
    Calls Try.prog 38 #[.int .i64 4, .int .i64 n, .int .u64 (IntKind.u64.wrap n)] w fun e w' => e = .returned (.tuple #[.string (strOfNums (encInt n)), .int .i64 0]) ∧ Below w.heap.size w w' := by
  have HC := Lib.hid (fun (wi : World) (hb : Below w.heap.size w wi) (hp : PB wi w.heap.size w.heap.size []) => pk_int (B := w.heap.size) (bp := w.heap.size) (xs := []) n wi hp hb.size (by simp) (by omega) (by omega))
  clear h0 h1
  go_enter Try.func38, Try.ntmps38
  go_wp2_with fail
  refine (pk_begin _ (heap_alloc_new w _)).mono ?_
  rintro e w1 ⟨rfl, hb1, hg1⟩
  have HBE := Lib.hid ((below_alloc (Below.refl w.heap.size w) _).grown hg1 (by simp) (by rintro k hk; injection hk with hk; omega))
  have HP := Lib.hid (show PB w1 w.heap.size w.heap.size [] from ⟨.slice none 0 0, hb1, own_nil _ _ _ _⟩)
  clear hb1 hg1
  go_wp2_with fail
  refine (HC.out _ HBE.out HP.out).mono ?_
  rintro e w2 ⟨rfl, hp2, hf2⟩
  rw [List.nil_append] at hp2
  have HP2 := Lib.hid hp2
  have HF2 := Lib.hid (HBE.out.trans (hf2.below (by omega) HBE.out.size))
  clear hp2 hf2 HC HP
  go_wp2_with fail
  refine (ended_any _ HP2.out).mono ?_
  rintro e w3 ⟨rfl, ⟨nd, rfl⟩⟩
  go_wp2_with fail
  go_ret2
  exact ⟨rfl, pw_below_drewN HF2.out nd⟩

set_option maxHeartbeats 1000000 in
set_option maxRecDepth 100000 in
theorem number5 (n : Int) (w : World) (h0 : 0 ≤ n) (h1 : n ≤ 255) :
    Calls Try.prog 38 #[.int .i64 5, .int .i64 n, .int .u64 (IntKind.u64.wrap n)] w fun e w' => e = .returned (.tuple #[.string (strOfNums (encInt n)), .int .i64 0]) ∧ Below w.heap.size w w' := by
  have hu : IntKind.u64.wrap n = n := by rw [IntKind.wrap_u64]; omega
  have hwk : IntKind.u8.wrap n = n := by rw [IntKind.wrap_u8]; omega
  have HC := Lib.hid (fun (wi : World) (hb : Below w.heap.size w wi) (hp : PB wi w.heap.size w.heap.size []) => num_u8 (B := w.heap.size) (bp := w.heap.size) (xs := []) n wi hp hb.size (by simp) (by omega) (by omega))
  rw [hu]
  clear hu
  clear h0 h1
  go_enter Try.func38, Try.ntmps38
  go_wp2_with fail
  refine (pk_begin _ (heap_alloc_new w _)).mono ?_
  rintro e w1 ⟨rfl, hb1, hg1⟩
  have HBE := Lib.hid ((below_alloc (Below.refl w.heap.size w) _).grown hg1 (by simp) (by rintro k hk; injection hk with hk; omega))
  have HP := Lib.hid (show PB w1 w.heap.size w.heap.size [] from ⟨.slice none 0 0, hb1, own_nil _ _ _ _⟩)
  clear hb1 hg1
  go_wp2_with fail
  refine (HC.out _ HBE.out HP.out).mono ?_
  rintro e w2 ⟨rfl, hp2, hf2⟩
  rw [List.nil_append] at hp2
  have HP2 := Lib.hid hp2
  have HF2 := Lib.hid (HBE.out.trans (hf2.below (by omega) HBE.out.size))
  clear hp2 hf2 HC HP
  go_wp2_with fail
  refine (ended_any _ HP2.out).mono ?_
  rintro e w3 ⟨rfl, ⟨nd, rfl⟩⟩
  go_wp2_with fail
  go_ret2
  exact ⟨rfl, pw_below_drewN HF2.out nd⟩

set_option maxHeartbeats 1000000 in
set_option maxRecDepth 100000 in
theorem number6 (n : Int) (w : World) (h0 : 0 ≤ n) (h1 : n ≤ 65535) :
    Calls Try.prog 38 #[.int .i64 6, .int .i64 n, .int .u64 (IntKind.u64.wrap n)] w fun e w' => e = .returned (.tuple #[.string (strOfNums (encInt n)), .int .i64 0]) ∧ Below w.heap.size w w' := by
  have hu : IntKind.u64.wrap n = n := by rw [IntKind.wrap_u64]; omega
  have hwk : IntKind.u16.wrap n = n := by rw [IntKind.wrap_u16]; omega
  have HC := Lib.hid (fun (wi : World) (hb : Below w.heap.size w wi) (hp : PB wi w.heap.size w.heap.size []) => num_u16 (B := w.heap.size) (bp := w.heap.size) (xs := []) n wi hp hb.size (by simp) (by omega) (by omega))
  rw [hu]
  clear hu
  clear h0 h1
  go_enter Try.func38, Try.ntmps38
  go_wp2_with fail
  refine (pk_begin _ (heap_alloc_new w _)).mono ?_
  rintro e w1 ⟨rfl, hb1, hg1⟩
  have HBE := Lib.hid ((below_alloc (Below.refl w.heap.size w) _).grown hg1 (by simp) (by rintro k hk; injection hk with hk; omega))
  have HP := Lib.hid (show PB w1 w.heap.size w.heap.size [] from ⟨.slice none 0 0, hb1, own_nil _ _ _ _⟩)
  clear hb1 hg1
  go_wp2_with fail
  refine (HC.out _ HBE.out HP.out).mono ?_
  rintro e w2 ⟨rfl, hp2, hf2⟩
  rw [List.nil_append] at hp2
  have HP2 := Lib.hid hp2
  have HF2 := Lib.hid (HBE.out.trans (hf2.below (by omega) HBE.out.size))
  clear hp2 hf2 HC HP
  go_wp2_with fail
  refine (ended_any _ HP2.out).mono ?_
  rintro e w3 ⟨rfl, ⟨nd, rfl⟩⟩
  go_wp2_with fail
  go_ret2
  exact ⟨rfl, pw_below_drewN HF2.out nd⟩

set_option maxHeartbeats 1000000 in
set_option maxRecDepth 100000 in
theorem number7 (n : Int) (w : World) (h0 : 0 ≤ n) (h1 : n ≤ 4294967295) :
    Calls Try.prog 38 #[.int .i64 7, .int .i64 n, .int .u64 (IntKind.u64.wrap n)] w fun e w' => e = .returned (.tuple #[.string (strOfNums (encInt n)), .int .i64 0]) ∧ Below w.heap.size w w' := by
  have hu : IntKind.u64.wrap n = n := by rw [IntKind.wrap_u64]; omega
  have hwk : IntKind.u32.wrap n = n := by rw [IntKind.wrap_u32]; omega
  have HC := Lib.hid (fun (wi : World) (hb : Below w.heap.size w wi) (hp : PB wi w.heap.size w.heap.size []) => num_u32 (B := w.heap.size) (bp := w.heap.size) (xs := []) n wi hp hb.size (by simp) (by omega) (by omega))
  rw [hu]
  clear hu
  clear h0 h1
  go_enter Try.func38, Try.ntmps38
  go_wp2_with fail
  refine (pk_begin _ (heap_alloc_new w _)).mono ?_
  rintro e w1 ⟨rfl, hb1, hg1⟩
  have HBE := Lib.hid ((below_alloc (Below.refl w.heap.size w) _).grown hg1 (by simp) (by rintro k hk; injection hk with hk; omega))
  have HP := Lib.hid (show PB w1 w.heap.size w.heap.size [] from ⟨.slice none 0 0, hb1, own_nil _ _ _ _⟩)
  clear hb1 hg1
  go_wp2_with fail
  refine (HC.out _ HBE.out HP.out).mono ?_
  rintro e w2 ⟨rfl, hp2, hf2⟩
  rw [List.nil_append] at hp2
  have HP2 := Lib.hid hp2
  have HF2 := Lib.hid (HBE.out.trans (hf2.below (by omega) HBE.out.size))
  clear hp2 hf2 HC HP
  go_wp2_with fail
  refine (ended_any _ HP2.out).mono ?_
  rintro e w3 ⟨rfl, ⟨nd, rfl⟩⟩
  go_wp2_with fail
  go_ret2
  exact ⟨rfl, pw_below_drewN HF2.out nd⟩

set_option maxHeartbeats 1000000 in
set_option maxRecDepth 100000 in
theorem number8 (n : Int) (w : World) (h0 : 0 ≤ n) (h1 : n ≤ 9223372036854775807) :
    Calls Try.prog 38 #[.int .i64 8, .int .i64 n, .int .u64 (IntKind.u64.wrap n)] w fun e w' => e = .returned (.tuple #[.string (strOfNums (encInt n)), .int .i64 0]) ∧ Below w.heap.size w w' := by
  have hu : IntKind.u64.wrap n = n := by rw [IntKind.wrap_u64]; omega
  have hwk : IntKind.u64.wrap n = n := by rw [IntKind.wrap_u64]; omega
  have HC := Lib.hid (fun (wi : World) (hb : Below w.heap.size w wi) (hp : PB wi w.heap.size w.heap.size []) => num_u64 (B := w.heap.size) (bp := w.heap.size) (xs := []) n wi hp hb.size (by simp) (by omega) (by omega))
  rw [hu]
  clear hu
  clear h0 h1
  go_enter Try.func38, Try.ntmps38
  go_wp2_with fail
  refine (pk_begin _ (heap_alloc_new w _)).mono ?_
  rintro e w1 ⟨rfl, hb1, hg1⟩
  have HBE := Lib.hid ((below_alloc (Below.refl w.heap.size w) _).grown hg1 (by simp) (by rintro k hk; injection hk with hk; omega))
  have HP := Lib.hid (show PB w1 w.heap.size w.heap.size [] from ⟨.slice none 0 0, hb1, own_nil _ _ _ _⟩)
  clear hb1 hg1
  go_wp2_with fail
  refine (HC.out _ HBE.out HP.out).mono ?_
  rintro e w2 ⟨rfl, hp2, hf2⟩
  rw [List.nil_append] at hp2
  have HP2 := Lib.hid hp2
  have HF2 := Lib.hid (HBE.out.trans (hf2.below (by omega) HBE.out.size))
  clear hp2 hf2 HC HP
  go_wp2_with fail
  refine (ended_any _ HP2.out).mono ?_
  rintro e w3 ⟨rfl, ⟨nd, rfl⟩⟩
  go_wp2_with fail
  go_ret2
  exact ⟨rfl, pw_below_drewN HF2.out nd⟩
end Go.Proofs.Ytjnookhdiolhgaa
