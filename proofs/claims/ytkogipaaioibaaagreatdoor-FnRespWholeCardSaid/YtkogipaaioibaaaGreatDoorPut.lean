/- PutUint16, PutUint32, PutUint64: they write a number's bytes, the highest first, into a row that lies somewhere in a block. -/
import Derived.Test.YtkogipaaioibaaaGreatDoorPAllx0
import Derived.Lib.Hide
namespace Go.Proofs.YtkogipaaioibaaaGreatDoor
open Go.RowKit Go.Proofs.YtkogipaaioibaaaGreatDoorW.PrintWords

theorem grown_set {w w1 : World} {g : Nat} (h : w.grownBy w1 (some g)) (j : Nat) (u : Value) : w.grownBy (w1.setCell ⟨g, j, none⟩ u) (some g) :=
  ⟨h.os, h.tape, h.output, by simpa [World.setCell] using h.size, fun i hi hne => (Below.heap_setCell w1 ⟨g, j, none⟩ u i (fun e => hne (by rw [e]))).trans (h.block i hi hne)⟩
theorem grown_trans' {w w1 w2 : World} {row : Option Nat} (h : w.grownBy w1 row) (k : w1.grownBy w2 row) : w.grownBy w2 row :=
  ⟨k.os.trans h.os, k.tape.trans h.tape, k.output.trans h.output, Nat.le_trans h.size k.size, fun i hi hne => (k.block i (Nat.lt_of_lt_of_le hi h.size) hne).trans (h.block i hi hne)⟩

set_option maxHeartbeats 1000000 in
theorem put16 {g o n c : Nat} {cs : Array Value} {t : TypeId} {v : Int} (w : World) (hb : w.heap[g]? = some (.cells cs t (0, 0))) (ho : o + 2 ≤ cs.size) (hn : 2 ≤ n) (h0 : 0 ≤ v) (h1 : v < 65536) :
    Calls Tryz.prog 71 #[.slice (some ⟨g, o, none⟩) n c, .int .u16 v] w fun e w' => e = .returned (.tuple #[]) ∧
      w'.heap[g]? = some (.cells ((cs.setIfInBounds o (.int .u8 (v / 256))).setIfInBounds (o + 1) (.int .u8 (v % 256))) t (0, 0)) ∧ w.grownBy w' (some g) := by
  have c0 : w.cell? ⟨g, o, none⟩ = some (cs[o]'(by omega)) := by rw [blk_cell hb]; exact Array.getElem?_eq_getElem _
  have c1 : w.cell? ⟨g, o + 1, none⟩ = some (cs[o + 1]'(by omega)) := by rw [blk_cell hb]; exact Array.getElem?_eq_getElem _
  have f0 : w.frozen? ⟨g, o, none⟩ = false := blk_frozen hb o
  have f1 : w.frozen? ⟨g, o + 1, none⟩ = false := blk_frozen hb (o + 1)
  have HB := Lib.hid hb
  have hn1 : (1 : Int) < (n : Int) := by omega
  have hn0 : (0 : Int) < (n : Int) := by omega
  clear hb
  go_enter Tryz.func71, Tryz.ntmps71
  go_wp2
  go_end0
  exact ⟨rfl, blk_set (blk_set HB.out o _) (o + 1) _, grown_set (grown_set (World.grownBy.refl w _) o _) (o + 1) _⟩

/-- Four cells of a block, one behind the other. -/
def set4 (cs : Array Value) (o : Nat) (a b c d : Int) : Array Value :=
  (((cs.setIfInBounds o (.int .u8 a)).setIfInBounds (o + 1) (.int .u8 b)).setIfInBounds (o + 2) (.int .u8 c)).setIfInBounds (o + 3) (.int .u8 d)
theorem set4_size (cs : Array Value) (o : Nat) (a b c d : Int) : (set4 cs o a b c d).size = cs.size := by simp [set4]

set_option maxHeartbeats 1000000 in
theorem put32 {g o n c : Nat} {cs : Array Value} {t : TypeId} {v : Int} (w : World) (hb : w.heap[g]? = some (.cells cs t (0, 0))) (ho : o + 4 ≤ cs.size) (hn : 4 ≤ n) (h0 : 0 ≤ v) (h1 : v < 4294967296) :
    Calls Tryz.prog 72 #[.slice (some ⟨g, o, none⟩) n c, .int .u32 v] w fun e w' => e = .returned (.tuple #[]) ∧
      w'.heap[g]? = some (.cells (set4 cs o (v / 16777216) (v / 65536 % 256) (v / 256 % 256) (v % 256)) t (0, 0)) ∧ w.grownBy w' (some g) := by
  have c0 : w.cell? ⟨g, o, none⟩ = some (cs[o]'(by omega)) := by rw [blk_cell hb]; exact Array.getElem?_eq_getElem _
  have c1 : w.cell? ⟨g, o + 1, none⟩ = some (cs[o + 1]'(by omega)) := by rw [blk_cell hb]; exact Array.getElem?_eq_getElem _
  have c2 : w.cell? ⟨g, o + 2, none⟩ = some (cs[o + 2]'(by omega)) := by rw [blk_cell hb]; exact Array.getElem?_eq_getElem _
  have c3 : w.cell? ⟨g, o + 3, none⟩ = some (cs[o + 3]'(by omega)) := by rw [blk_cell hb]; exact Array.getElem?_eq_getElem _
  have f0 : w.frozen? ⟨g, o, none⟩ = false := blk_frozen hb o
  have f1 : w.frozen? ⟨g, o + 1, none⟩ = false := blk_frozen hb (o + 1)
  have f2 : w.frozen? ⟨g, o + 2, none⟩ = false := blk_frozen hb (o + 2)
  have f3 : w.frozen? ⟨g, o + 3, none⟩ = false := blk_frozen hb (o + 3)
  have HB := Lib.hid hb
  have hn3 : (3 : Int) < (n : Int) := by omega
  have hn2 : (2 : Int) < (n : Int) := by omega
  have hn1 : (1 : Int) < (n : Int) := by omega
  have hn0 : (0 : Int) < (n : Int) := by omega
  clear hb
  go_enter Tryz.func72, Tryz.ntmps72
  go_wp2
  go_end0
  exact ⟨rfl, blk_set (blk_set (blk_set (blk_set HB.out o _) (o + 1) _) (o + 2) _) (o + 3) _, grown_set (grown_set (grown_set (grown_set (World.grownBy.refl w _) o _) (o + 1) _) (o + 2) _) (o + 3) _⟩

set_option maxHeartbeats 1000000 in
theorem put64 {g o n c : Nat} {cs : Array Value} {t : TypeId} {v : Int} (w : World) (hb : w.heap[g]? = some (.cells cs t (0, 0))) (ho : o + 8 ≤ cs.size) (hn : 8 ≤ n) (hc : n ≤ c) (h0 : 0 ≤ v) (h1 : v < 18446744073709551616) :
    Calls Tryz.prog 73 #[.slice (some ⟨g, o, none⟩) n c, .int .u64 v] w fun e w' => e = .returned (.tuple #[]) ∧
      w'.heap[g]? = some (.cells (set4 (set4 cs o (v / 4294967296 / 16777216) (v / 4294967296 / 65536 % 256) (v / 4294967296 / 256 % 256) (v / 4294967296 % 256)) (o + 4)
        (v % 4294967296 / 16777216) (v % 4294967296 / 65536 % 256) (v % 4294967296 / 256 % 256) (v % 4294967296 % 256)) t (0, 0)) ∧ w.grownBy w' (some g) := by
  have hcc : ¬ c = 4 := by omega
  have hn4 : 4 ≤ n := by omega
  have HC := Lib.hid hc
  have HB := Lib.hid hb
  have HO := Lib.hid ho
  have HN := Lib.hid hn
  have HV0 := Lib.hid h0
  have HV1 := Lib.hid h1
  clear hb
  go_enter Tryz.func73, Tryz.ntmps73
  go_wp2_with fail
  refine (put32 w HB.out (by omega) (by omega) (by omega) (by omega)).mono ?_
  rintro e w1 ⟨rfl, hb1, hg1⟩
  have HB1 := Lib.hid hb1
  have HG1 := Lib.hid hg1
  clear hb1 hg1
  go_wp2_with fail
  refine (put32 w1 HB1.out (by rw [set4_size]; omega) (by omega) (by omega) (by omega)).mono ?_
  rintro e w2 ⟨rfl, hb2, hg2⟩
  have HB2 := Lib.hid hb2
  have HG2 := Lib.hid hg2
  clear hb2 hg2
  go_wp2_with fail
  go_end0
  exact ⟨rfl, HB2.out, grown_trans' HG1.out HG2.out⟩
end Go.Proofs.YtkogipaaioibaaaGreatDoor
