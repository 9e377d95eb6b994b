/- FnMessageShort: the walk. -/
import Derived.Test.YtnbhledkdkchlaaAlive
namespace Go.Proofs.Ytnbhledkdkchlaa
open Go.RowKit Go.Proofs.YtnbhledkdkchlaaW.PrintWords

set_option maxHeartbeats 1000000 in
theorem errNew_any (s : ByteArray) (w : World) :
    Calls Try.prog 62 #[.string s] w fun e w' => (∃ t v, e = .returned (.iface t v)) ∧ Below w.heap.size w w' := by
  go_enter Try.func62, Try.ntmps62
  go_wp2_with fail
  go_ret
  exact ⟨⟨_, _, rfl⟩, below_alloc (Below.refl _ _) _⟩

set_option maxHeartbeats 1000000 in
theorem decode_short (A : Option Addr) (n c : Nat) (w : World) (hn : n ≤ 25) :
    Calls Try.prog 42 #[.slice A n c] w fun e w' => (∃ t v, e = .returned (.tuple #[.pointer none, .iface t v])) ∧ Below w.heap.size w w' := by
  have hn' : (n : Int) ≤ 25 := by omega
  go_enter Try.func42, Try.ntmps42
  go_wp2_with fail
  refine (errNew_any _ _).mono ?_
  rintro e w1 ⟨⟨t, v, rfl⟩, hb⟩
  have HB := Lib.hid hb
  clear hb
  go_wp2_with fail
  go_ret2
  exact ⟨⟨_, _, rfl⟩, (below_alloc (Below.refl _ _) _).trans (HB.out.mono (by simp))⟩

set_option maxHeartbeats 1000000 in
set_option maxRecDepth 100000 in
theorem read_short (s : ByteArray) (w : World) (hn : s.size ≤ 25) :
    Calls Try.prog 20 #[.string s] w fun e w' => e = .returned (.tuple #[.agg #[.int .i64 0, .int .i64 0, .string ⟨#[]⟩, .string ⟨#[]⟩], .int .i64 1]) ∧ Below w.heap.size w w' := by
  have HD := Lib.hid (fun A c w => decode_short A s.size c w hn)
  have hbs := fun w => print_bytes (P := Try.prog) 9 69 5 Try.underlying9 Try.underlying69 Try.underlying5 s w
  go_enter Try.func20, Try.ntmps20
  go_wp2_with fail
  refine (HD.out _ _ _).mono ?_
  rintro e w1 ⟨⟨t, v, rfl⟩, hb⟩
  have HB := Lib.hid (Below.trans (bytes_below (below_alloc (Below.refl w.heap.size w) _) (by simp) 5 s) (hb.mono (by rw [Lib.bytesWorld_size]; simp; omega)))
  have hk : w1.heap[w.heap.size]? = some (.cells #[.int .i64 0, .int .i64 0, .string ⟨#[]⟩, .string ⟨#[]⟩] 28 (0, 0)) :=
    (hb.block _ (by rw [Lib.bytesWorld_size]; simp; omega)).trans ((Lib.bytesWorld_at_old _ 5 s w.heap.size (by simp)).trans (heap_alloc_new w _))
  have hc0 : w1.cell? ⟨w.heap.size, 0, none⟩ = _ := blk_cell hk 0
  have hc1 : w1.cell? ⟨w.heap.size, 1, none⟩ = _ := blk_cell hk 1
  have hc2 : w1.cell? ⟨w.heap.size, 2, none⟩ = _ := blk_cell hk 2
  have hc3 : w1.cell? ⟨w.heap.size, 3, none⟩ = _ := blk_cell hk 3
  have hf0 := blk_frozen hk 0
  have hf1 := blk_frozen hk 1
  have hf2 := blk_frozen hk 2
  have hf3 := blk_frozen hk 3
  have hlt := blk_lt hk
  have HK := Lib.hid hk
  clear hb hk
  go_wp2_with fail
  have hbx := blk_put (cs' := #[.int .i64 0, .int .i64 0, .string ⟨#[]⟩, .string ⟨#[]⟩]) (blk_put (cs' := #[.int .i64 0, .int .i64 0, .string ⟨#[]⟩, .string ⟨#[]⟩]) (blk_put (cs' := #[.int .i64 0, .int .i64 0, .string ⟨#[]⟩, .string ⟨#[]⟩]) (blk_put (cs' := #[.int .i64 0, .int .i64 0, .string ⟨#[]⟩, .string ⟨#[]⟩]) HK.out 0 (.int .i64 0) rfl) 1 (.int .i64 0) rfl) 2 (.string ⟨#[]⟩) rfl) 3 (.string ⟨#[]⟩) rfl
  refine bodyPost_ret (results_ct rfl _ _ w.heap.size 28 #[.int .i64 0, .int .i64 0, .string ⟨#[]⟩, .string ⟨#[]⟩] (0, 0) _ rfl hbx Try.underlying28 rfl (by kernel_rfl)) rfl ?_
  exact ⟨rfl, below_set (below_set (below_set (below_set HB.out (Nat.le_refl _)) (Nat.le_refl _)) (Nat.le_refl _)) (Nat.le_refl _)⟩

set_option maxHeartbeats 2000000 in
theorem FnMessageShort_walk (s : ByteArray) (w : World) (hs : s.size ≤ 140737488351232) :
    Calls Try.prog 5 #[.string s] w fun e w' => e = .returned (.bool true) ∧ Below w.heap.size w w' := by
  by_cases h1 : s.size ≤ 25
  case neg =>
    have h1' : 26 ≤ s.size := by omega
    go_enter Try.func5, Try.ntmps5
    go_wp2_with fail
    all_goals
      go_ret
      exact ⟨rfl, Below.refl _ _⟩
  have h1' : (s.size : Int) < 26 := by omega
  have HR := Lib.hid (fun w => read_short s w h1)
  go_enter Try.func5, Try.ntmps5
  go_wp2_with fail
  refine (HR.out _).mono ?_
  rintro e w1 ⟨rfl, hb⟩
  have HB := Lib.hid hb
  clear hb
  go_wp2_with fail
  refine (alive_any _).mono ?_
  rintro e w2 ⟨rfl, hb⟩
  have HB2 := Lib.hid ((below_alloc HB.out _).trans (hb.mono (by have := HB.out.size; simp; omega)))
  clear hb
  go_wp2_with fail
  go_ret
  exact ⟨rfl, HB2.out⟩
end Go.Proofs.Ytnbhledkdkchlaa
