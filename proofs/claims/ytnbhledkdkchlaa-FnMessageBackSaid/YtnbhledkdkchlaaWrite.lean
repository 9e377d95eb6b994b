/- source.Buffer.Write. (seat r2) -/
import Derived.Test.YtnbhledkdkchlaaMade
namespace Go.Proofs.Ytnbhledkdkchlaa
set_option linter.unusedVariables false
set_option linter.unusedSimpArgs false
open Go.RowKit Go.Proofs.YtnbhledkdkchlaaW.PrintWords
open PAll (info5)

/-- A buffer (block bp) that holds bytes, its row from B on. -/
def BF (w : World) (B bp : Nat) (xs : List Int) : Prop :=
  ∃ v, w.heap[bp]? = some (.cells #[v] 80 (0, 0)) ∧ w.ownsRow B 5 1 v xs.length (nums .u8 xs)
/-- What a write leaves: all below B but the buffer's block. -/
structure BK (w w' : World) (B bp : Nat) : Prop where
  os : w'.os = w.os
  tape : w'.tape = w.tape
  output : w'.output = w.output
  size : w.heap.size ≤ w'.heap.size
  block : ∀ k, k < B → k ≠ bp → w'.heap[k]? = w.heap[k]?
theorem BK.trans {w w1 w2 : World} {B bp : Nat} (h : BK w w1 B bp) (k : BK w1 w2 B bp) : BK w w2 B bp :=
  ⟨k.os.trans h.os, k.tape.trans h.tape, k.output.trans h.output, Nat.le_trans h.size k.size, fun i hi hn => (k.block i hi hn).trans (h.block i hi hn)⟩
theorem BK.of_below {w w1 : World} {B bp : Nat} (h : Below w.heap.size w w1) (hB : B ≤ w.heap.size) : BK w w1 B bp :=
  ⟨h.os, h.tape, h.output, h.size, fun i hi _ => h.block i (by omega)⟩
theorem BF.move {w w1 : World} {B bp : Nat} {xs : List Int} (h : BF w B bp xs) (hb : Below w.heap.size w w1) : BF w1 B bp xs := by
  obtain ⟨v, h1, h2⟩ := h
  exact ⟨v, blk_below h1 hb, own_move h2 (fun k hk => hb.block k (own_lt h2 k hk))⟩
theorem BF.nil {w : World} {bp : Nat} (B : Nat) (h : w.heap[bp]? = some (.cells #[.slice none 0 0] 80 (0, 0))) : BF w B bp [] := ⟨_, h, own_nil _ _ _ _⟩

set_option maxHeartbeats 1000000 in
set_option maxRecDepth 100000 in
theorem write_any {B bp : Nat} {xs : List Int} (w : World) (h : BF w B bp xs) (A : Option Addr) (m c : Nat) (ys : List Int) (hr : ReadsInt w .u8 A m ys) (hB : B ≤ w.heap.size) (hl : xs.length + m ≤ 140737488355328) :
    Calls Try.prog 112 #[.pointer (some ⟨bp, 0, none⟩), .slice A m c] w fun e w' => e = .returned (.tuple #[.int .i64 m, .nilIface]) ∧ BF w' B bp (xs ++ ys) ∧ BK w w' B bp := by
  obtain ⟨v, hb, ho⟩ := h
  have hc : w.cell? ⟨bp, 0, none⟩ = some v := blk_cell hb 0
  have hlt := blk_lt hb
  go_enter Try.func112, Try.ntmps112
  go_wp2_with (at_builtin; refine print_append_row (w0 := w) B rfl _ _ 69 5 .u8 1 rfl Try.underlying69 info5 (by omega) v xs ys A m c rfl rfl ho hr (Below.refl B _) hB (by omega) ?_; intro v1 w1 hown1 hb1 hg1 hat1; have hp := blk_grown hb hg1 (own_ne ho hb (by decide)); have hcp : w1.cell? ⟨bp, 0, none⟩ = some v := blk_cell hp 0; have hfp := blk_frozen hp 0; obtain ⟨A1, c1, hv1⟩ := own_slice hown1; subst hv1)
  go_ret2
  refine ⟨rfl, ⟨_, blk_put hp 0 _ rfl, ?_⟩, ⟨hg1.os, hg1.tape, hg1.output, by rw [World.size_setCell]; exact hg1.size, fun k hk hn => ?_⟩⟩
  · have h := own_setCell (p := ⟨bp, 0, none⟩) hown1 (own_ne hown1 hp (by decide)) (.slice A1 (xs.length + ys.length) c1)
    rw [List.length_append] at h ⊢
    exact h
  · refine (Below.heap_setCell _ _ _ k hn).trans (hg1.block k (by omega) (fun he => ?_))
    have := own_base ho k he.symm
    omega
end Go.Proofs.Ytnbhledkdkchlaa
