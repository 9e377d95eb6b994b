/- Frames: the reader's fill and take. (seat r2) -/
import Derived.Test.YtnbhledkdkchlaaFr0
import Derived.Laws.IdiomCopy
namespace Go.Proofs.Ytnbhledkdkchlaa
set_option linter.unusedVariables false
set_option linter.unusedSimpArgs false
open Go.RowKit Go.Proofs.YtnbhledkdkchlaaW.PrintWords Go.Proofs.YtnbhledkdkchlaaW.PrintLast Go.Proofs.YtnbhledkdkchlaaW.PrintMore
attribute [local go_sem] max2_int min2_int max_two min_two max_three min_three max_four min_four
open PAll (info5)

/-- A reader: what is left of its bytes. -/
structure RB (w : World) (rb src off c : Nat) (xs : List Int) (bf : Int) : Prop where
  box : w.heap[rb]? = some (.cells #[.slice (some ⟨src, off, none⟩) xs.length c, .int .i64 bf, .int .i64 4096] 93 (0, 0))
  le : xs.length ≤ c
  big : xs.length ≤ 1000000000
  row : ReadsInt w .u8 (some ⟨src, off, none⟩) xs.length xs
  bf0 : 0 ≤ bf
  bf1 : bf ≤ xs.length
  far : src ≠ rb
  lt : src < w.heap.size
theorem reads_block {w w' : World} {b o n : Nat} {xs : List Int} (h : ReadsInt w .u8 (some ⟨b, o, none⟩) n xs) (hk : w'.heap[b]? = w.heap[b]?) : ReadsInt w' .u8 (some ⟨b, o, none⟩) n xs := by
  refine ⟨h.1, h.2.1, fun hp => ?_⟩
  obtain ⟨ad, he, hc⟩ := h.2.2 hp
  injection he with he
  subst he
  refine ⟨_, rfl, fun j hj => ?_⟩
  have h1 := hc j hj
  have e : ((⟨b, o, none⟩ : Addr).add j).block = b := by unfold Addr.add; split <;> rfl
  unfold World.cell? at h1 ⊢
  rw [e] at h1 ⊢
  rw [hk]
  exact h1
theorem reads_drop {w : World} {b o n k : Nat} {xs : List Int} (h : ReadsInt w .u8 (some ⟨b, o, none⟩) n xs) (hk : k ≤ n) : ReadsInt w .u8 (some ⟨b, o + k, none⟩) (n - k) (xs.drop k) := by
  refine ⟨by rw [List.length_drop, h.1], by have := h.2.1; omega, fun hp => ⟨_, rfl, fun j hj => ?_⟩⟩
  obtain ⟨ad, he, hc⟩ := h.2.2 (by omega)
  injection he with he
  subst he
  have h1 := hc (k + j) (by omega)
  have e : (⟨b, o, none⟩ : Addr).add (k + j) = (⟨b, o + k, none⟩ : Addr).add j := by
    unfold Addr.add
    split <;> split <;> simp_all <;> omega
  rw [e] at h1
  rw [h1]
  simp [List.getD_eq_getElem?_getD, List.getElem?_drop]
theorem RB.keep {w w' : World} {rb src off c : Nat} {xs : List Int} {bf : Int} (h : RB w rb src off c xs bf) (h1 : w'.heap[rb]? = w.heap[rb]?) (h2 : w'.heap[src]? = w.heap[src]?) (hs : w.heap.size ≤ w'.heap.size) : RB w' rb src off c xs bf :=
  ⟨h1.trans h.box, h.le, h.big, reads_block h.row h2, h.bf0, h.bf1, h.far, Nat.lt_of_lt_of_le h.lt hs⟩
theorem RB.below {w w' : World} {rb src off c : Nat} {xs : List Int} {bf : Int} (h : RB w rb src off c xs bf) (hb : Below w.heap.size w w') : RB w' rb src off c xs bf :=
  h.keep (hb.block _ (blk_lt h.box)) (hb.block _ h.lt) hb.size

theorem RB.setbf {w : World} {rb src off c : Nat} {xs : List Int} {bf b : Int} (h : RB w rb src off c xs bf) (h0 : 0 ≤ b) (h1 : b ≤ xs.length) : RB (w.setCell ⟨rb, 1, none⟩ (.int .i64 b)) rb src off c xs b :=
  ⟨blk_put h.box 1 _ rfl, h.le, h.big, reads_block h.row (Below.heap_setCell w ⟨rb, 1, none⟩ _ src h.far), h0, h1, h.far, by have := h.lt; simpa [World.setCell] using this⟩
theorem RB.taken {w : World} {rb src off c : Nat} {xs : List Int} {bf b' : Int} (h : RB w rb src off c xs bf) {k o' c' : Nat} (hk : k ≤ xs.length) (hc : xs.length - k ≤ c') (h0 : 0 ≤ b') (h1 : b' ≤ (xs.length : Int) - k) (ho : o' = off + k ∨ k = xs.length) :
    RB ((w.setCell ⟨rb, 0, none⟩ (.slice (some ⟨src, o', none⟩) (xs.length - k) c')).setCell ⟨rb, 1, none⟩ (.int .i64 b')) rb src o' c' (xs.drop k) b' := by
  have hl : (xs.drop k).length = xs.length - k := List.length_drop
  have hg := h.big
  refine ⟨?_, by omega, by omega, ?_, h0, by rw [hl]; omega, h.far, by have := h.lt; simpa [World.setCell] using this⟩
  · rw [hl]; exact blk_put (blk_put h.box 0 _ rfl) 1 _ rfl
  · rw [hl]
    refine reads_block ?_ ((Below.heap_setCell _ ⟨rb, 1, none⟩ _ src h.far).trans (Below.heap_setCell w ⟨rb, 0, none⟩ _ src h.far))
    rcases ho with rfl | rfl
    · exact reads_drop h.row hk
    · rw [Nat.sub_self, List.drop_length]
      exact ⟨rfl, by decide, fun hp => absurd hp (by decide)⟩
/-- What fill leaves. -/
def FillR (rb src off c : Nat) (xs : List Int) (w : World) (e : Ending) (w' : World) : Prop := ∃ (r : Bool) (bf' : Int), e = .returned (.bool r) ∧ RB w' rb src off c xs bf' ∧ w.grownBy w' (some rb)
set_option maxHeartbeats 2000000 in
set_option maxRecDepth 100000 in
theorem fill_any {rb src off c : Nat} {xs : List Int} {bf : Int} (w : World) (h : RB w rb src off c xs bf) :
    Calls Try.prog 88 #[.pointer (some ⟨rb, 0, none⟩)] w fun e w' => FillR rb src off c xs w e w' := by
  have c0 : w.cell? ⟨rb, 0, none⟩ = some (.slice (some ⟨src, off, none⟩) xs.length c) := blk_cell h.box 0
  have c1 : w.cell? ⟨rb, 1, none⟩ = some (.int .i64 bf) := blk_cell h.box 1
  have c2 : w.cell? ⟨rb, 2, none⟩ = some (.int .i64 4096) := blk_cell h.box 2
  have f1 : w.frozen? ⟨rb, 1, none⟩ = false := blk_frozen h.box 1
  have HH := Aside0.mk h
  have hbg : (xs.length : Int) ≤ 1000000000 := by have := h.big; omega
  clear h
  go_enter Try.func88, Try.ntmps88
  by_cases he : (xs.length : Int) = bf
  · go_wp2_with fail
    go_quiet (fail)
    all_goals
      go_wp2_with fail
      go_ret
      exact ⟨false, bf, rfl, HH.out.below (pw_below_drewN (Below.refl _ _) _), grown_of_below (pw_below_drewN (Below.refl _ _) _) _⟩
  · go_wp2_with fail
    go_quiet (fail)
    all_goals go_wp2_with fail
    all_goals go_region
    all_goals go_wp2_with fail
    all_goals go_ret
    all_goals exact ⟨true, _, rfl, (HH.out.below (pw_below_drewN (Below.refl _ _) _)).setbf (by omega) (by omega), grown_set (grown_of_below (pw_below_drewN (Below.refl _ _) _) _) 1 _⟩

/-- What take leaves. -/
def TakeR (rb src : Nat) (xs : List Int) (k : Nat) (w : World) (e : Ending) (w' : World) : Prop := ∃ (v : Value) (off' c' : Nat) (bf' : Int), e = .returned v ∧ RB w' rb src off' c' (xs.drop k) bf' ∧ w.grownBy w' (some rb)
set_option maxHeartbeats 2000000 in
set_option maxRecDepth 100000 in
theorem take_any {rb src off c : Nat} {xs : List Int} {bf : Int} (k : Nat) (w : World) (h : RB w rb src off c xs bf) (hk : k ≤ xs.length) :
    Calls Try.prog 89 #[.pointer (some ⟨rb, 0, none⟩), .int .i64 k] w fun e w' => TakeR rb src xs k w e w' := by
  have c0 : w.cell? ⟨rb, 0, none⟩ = some (.slice (some ⟨src, off, none⟩) xs.length c) := blk_cell h.box 0
  have c1 : w.cell? ⟨rb, 1, none⟩ = some (.int .i64 bf) := blk_cell h.box 1
  have f0 : w.frozen? ⟨rb, 0, none⟩ = false := blk_frozen h.box 0
  have f1 : w.frozen? ⟨rb, 1, none⟩ = false := blk_frozen h.box 1
  have HH := Aside0.mk h
  have hbg : (xs.length : Int) ≤ 1000000000 := by have := h.big; omega
  have hkx : (k : Int) ≤ (xs.length : Int) := by omega
  have hkc : k ≤ c := by have := h.le; omega
  have hbf0 := h.bf0
  have hbf1 := h.bf1
  clear h
  go_enter Try.func89, Try.ntmps89
  go_wp2_with fail
  all_goals go_ret
  all_goals
    have hle := HH.out.le
    first
    | exact ⟨_, _, _, _, rfl, HH.out.taken (o' := off + k) (c' := c - k) hk (by omega) (by omega) (by omega) (.inl rfl), grown_set (grown_set (World.grownBy.refl w _) 0 _) 1 _⟩
    | exact ⟨_, _, _, _, rfl, HH.out.taken (o' := off) (c' := 0) hk (by omega) (by omega) (by omega) (.inr (by omega)), grown_set (grown_set (World.grownBy.refl w _) 0 _) 1 _⟩
end Go.Proofs.Ytnbhledkdkchlaa
