/- The Lean function of strconv_bool2_uint64 and its contract: the Go function comes to exactly what the Lean function answers (laid by the kit's print program). -/
import Derived.Test.YtkogipaaioibaaaGreatDoorPAllx0
namespace Go.Proofs.YtkogipaaioibaaaGreatDoor.PAll
open Go.RowKit Go.Proofs.YtkogipaaioibaaaGreatDoorW.PrintWords Go.Proofs.YtkogipaaioibaaaGreatDoorW.PrintLast Go.Proofs.YtkogipaaioibaaaGreatDoorW.PrintMore
attribute [local go_sem] max2_int min2_int max_two min_two max_three min_three max_four min_four   -- for this text's walks alone
set_option linter.unusedVariables false
set_option linter.unusedSimpArgs false
-- NOT PRINTED: function 111 (strconv_fmtEFG)

/-! ### strconv_bool2_uint64: function 142 -/
def strconv_bool2_uint64.f (a0 : Bool) : Option (Int) := if a0 = true then (some 1) else (some 0)
set_option maxHeartbeats 8000000 in
set_option maxRecDepth 100000 in
theorem strconv_bool2_uint64.calls (a0 : Bool) (r : Int) (w : World) (h : strconv_bool2_uint64.f a0 = some r) :
    Calls Tryz.prog 142 #[.bool a0] w fun e w' => e = .returned (.int .u64 r) ∧ Drawn0 w w' := by
  have H : (if a0 = true then (some 1) else (some 0)) = some r := h
  clear h
  by_cases c2 : a0 = true
  · subst c2
    have H1 : (some 1) = some r := by rw [if_pos rfl] at H; exact H
    clear H
    have H := H1
    clear H1
    obtain rfl := Option.some.inj H
    go_enter Tryz.func142, Tryz.ntmps142
    go_wp2
    go_ret
    exact ⟨by first | rfl | (simp; done) | (simp [*]; done), by repeat (first | exact Drawn0.refl _ | apply Drawn0.step)⟩
  · replace c2 := Bool.eq_false_iff.mpr c2
    subst c2
    have H1 : (some 0) = some r := by rw [if_neg (show ¬ (false = true) by decide)] at H; exact H
    clear H
    have H := H1
    clear H1
    obtain rfl := Option.some.inj H
    go_enter Tryz.func142, Tryz.ntmps142
    go_wp2
    go_ret
    exact ⟨by first | rfl | (simp; done) | (simp [*]; done), by repeat (first | exact Drawn0.refl _ | apply Drawn0.step)⟩

/-- A state of type 171 at block g of W; what its slices lead to came in by w0. -/
def IsS171 (w0 W : World) (g : Nat) (f0 : Int) (f1 : Int) (f2 : Int) : Prop := W.heap[g]? = some (.cells #[.int .u64 f0, .int .u64 f1, .int .i64 f2] 171 (0, 0)) ∧ w0.heap.size ≤ g
theorem IsS171.grown {w0 W : World} {g : Nat} {f0 : Int} {f1 : Int} {f2 : Int} {W1 : World} {row : Option Nat} (h : IsS171 w0 W g f0 f1 f2) (hw : W.grownBy W1 row) (hne : some g ≠ row) : IsS171 w0 W1 g f0 f1 f2 := by
  obtain ⟨hb, hg⟩ := h
  exact ⟨blk_grown hb hw hne, hg⟩
theorem IsS171.own_neN {w0 W : World} {g : Nat} {f0 : Int} {f1 : Int} {f2 : Int} {α : Type} {d : Kd α} {e : Nat} {base : Nat} {ok : Nat → Prop} {v : Value} {xs : List α} (h : IsS171 w0 W g f0 f1 f2) (ho : Kd.N d e W base ok v xs) (ht : e ≠ 171) : some g ≠ v.ownBlock := by
  obtain ⟨hb, hg⟩ := h
  exact Kd.N_ne ho hb ht
theorem IsS171.fresh {w0 W : World} {g : Nat} {f0 : Int} {f1 : Int} {f2 : Int} (h : IsS171 w0 W g f0 f1 f2) : ∀ k, W.heap.size ≤ k → k ≠ g := by
  obtain ⟨hb, hg⟩ := h
  exact Kd.freshB hb
theorem IsS171.kept {w0 W : World} {g : Nat} {f0 : Int} {f1 : Int} {f2 : Int} {W1 : World} {S : Nat → Prop} (h : IsS171 w0 W g f0 f1 f2) (hk : Kept W W1 S) (hne : ¬ S g) : IsS171 w0 W1 g f0 f1 f2 := by
  obtain ⟨hb, hg⟩ := h
  exact ⟨blk_kept hb hk hne, hg⟩
theorem IsS171.below {w0 W : World} {g : Nat} {f0 : Int} {f1 : Int} {f2 : Int} {W1 : World} (h : IsS171 w0 W g f0 f1 f2) (hw : Below W.heap.size W W1) : IsS171 w0 W1 g f0 f1 f2 := h.grown (grown_of_below hw none) (by simp)
theorem IsS171.alloc {w0 W : World} {g : Nat} {f0 : Int} {f1 : Int} {f2 : Int} (h : IsS171 w0 W g f0 f1 f2) (o : Obj) : IsS171 w0 (W.alloc o) g f0 f1 f2 := h.below (below_alloc (Below.refl _ _) o)
theorem IsS171.drewN {w0 W : World} {g : Nat} {f0 : Int} {f1 : Int} {f2 : Int} (h : IsS171 w0 W g f0 f1 f2) (m : Nat) : IsS171 w0 (W.drewN m) g f0 f1 f2 := h
theorem IsS171.drew {w0 W : World} {g : Nat} {f0 : Int} {f1 : Int} {f2 : Int} (h : IsS171 w0 W g f0 f1 f2) : IsS171 w0 W.drew g f0 f1 f2 := h
theorem IsS171.at_ {w0 W : World} {g : Nat} {f0 : Int} {f1 : Int} {f2 : Int} {w' : World} {m : Nat} (hq : W.drewN m = w') (h : IsS171 w0 W g f0 f1 f2) : IsS171 w0 w' g f0 f1 f2 := by subst hq; exact IsS171.drewN h m
theorem IsS171.apart {w0 W : World} {g : Nat} {f0 : Int} {f1 : Int} {f2 : Int} {α : Type} {d : Kd α} {e : Nat} {base : Nat} {ok : Nat → Prop} {v : Value} {xs : List α} (h : IsS171 w0 W g f0 f1 f2) (ho : d.R e W base ok v xs) (ht : ∀ q, q ∈ e :: d.E → q ≠ 171) : d.R e W base (fun k => ok k ∧ k ≠ g) v xs := by
  obtain ⟨hb, hg⟩ := h
  exact Kd.R_types ho hb ht
theorem IsS171.own_ne {w0 W : World} {g : Nat} {f0 : Int} {f1 : Int} {f2 : Int} {α : Type} {d : Kd α} {e : Nat} {base : Nat} {ok : Nat → Prop} {v : Value} {xs : List α} (h : IsS171 w0 W g f0 f1 f2) (ho : d.R e W base ok v xs) (ht : e ≠ 171) : some g ≠ v.ownBlock := by
  obtain ⟨hb, hg⟩ := h
  exact Kd.R_ne ho hb ht
theorem IsS171.apartQ {w0 W : World} {g : Nat} {f0 : Int} {f1 : Int} {f2 : Int} {α : Type} {d : Kd α} {e : Nat} {base : Nat} {ok : Nat → Prop} {v : Value} {xs : List α} (h : IsS171 w0 W g f0 f1 f2) (ho : d.Q e W base ok v xs) (ht : ∀ q, q ∈ e :: d.E → q ≠ 171) : d.Q e W base (fun k => ok k ∧ k ≠ g) v xs := by
  obtain ⟨hb, hg⟩ := h
  exact Kd.Q_types ho hb ht
theorem IsS171.own_neQ {w0 W : World} {g : Nat} {f0 : Int} {f1 : Int} {f2 : Int} {α : Type} {d : Kd α} {e : Nat} {base : Nat} {ok : Nat → Prop} {v : Value} {xs : List α} (h : IsS171 w0 W g f0 f1 f2) (ho : d.Q e W base ok v xs) (ht : e ≠ 171) : some g ≠ v.ownBlock := by
  obtain ⟨hb, hg⟩ := h
  exact Kd.Q_ne ho hb ht
theorem IsS171.apartS {w0 W : World} {g : Nat} {f0 : Int} {f1 : Int} {f2 : Int} {α : Type} {d : Kd α} {e : Nat} {base : Nat} {ok : Nat → Prop} {v : Value} {xs : List α} (h : IsS171 w0 W g f0 f1 f2) (ho : d.S e W base ok v xs) (ht : ∀ q, q ∈ e :: d.E → q ≠ 171) : d.S e W base (fun k => ok k ∧ k ≠ g) v xs := by
  obtain ⟨hb, hg⟩ := h
  exact Kd.S_types ho hb ht
theorem IsS171.own_neS {w0 W : World} {g : Nat} {f0 : Int} {f1 : Int} {f2 : Int} {α : Type} {d : Kd α} {e : Nat} {base : Nat} {ok : Nat → Prop} {v : Value} {xs : List α} (h : IsS171 w0 W g f0 f1 f2) (ho : d.S e W base ok v xs) (ht : e ≠ 171) : some g ≠ v.ownBlock := by
  obtain ⟨hb, hg⟩ := h
  exact Kd.S_ne ho hb ht
theorem IsS171.lt {w0 W : World} {g : Nat} {f0 : Int} {f1 : Int} {f2 : Int} (h : IsS171 w0 W g f0 f1 f2) : g < W.heap.size := by
  obtain ⟨hb, hg⟩ := h
  exact blk_lt hb
theorem IsS171.ge {w0 W : World} {g : Nat} {f0 : Int} {f1 : Int} {f2 : Int} (h : IsS171 w0 W g f0 f1 f2) : w0.heap.size ≤ g := by
  obtain ⟨hb, hg⟩ := h
  exact hg
theorem IsS171.ne_blk {w0 W : World} {g : Nat} {f0 : Int} {f1 : Int} {f2 : Int} {a : Nat} {cs : Array Value} {t : TypeId} {fr : Nat × Nat} (h : IsS171 w0 W g f0 f1 f2) (hb2 : W.heap[a]? = some (.cells cs t fr)) (ht : t ≠ 171) : g ≠ a := by
  obtain ⟨hb, hg⟩ := h
  rintro rfl
  rw [hb] at hb2
  injection hb2 with hb2
  injection hb2 with _ ht2
  exact ht ht2.symm
theorem IsS171.far {w0 W : World} {g : Nat} {f0 : Int} {f1 : Int} {f2 : Int} {p : Addr} (h : IsS171 w0 W g f0 f1 f2) (hne : g ≠ p.block) (u : Value) : IsS171 w0 (W.setCell p u) g f0 f1 f2 := by
  obtain ⟨hb, hg⟩ := h
  exact ⟨blk_far hb hne u, hg⟩
theorem cellS171_0 {W : World} {g : Nat} {f0 : Int} {f1 : Int} {f2 : Int} (h : W.heap[g]? = some (.cells #[.int .u64 f0, .int .u64 f1, .int .i64 f2] 171 (0, 0))) : W.cell? ⟨g, 0, none⟩ = some (.int .u64 f0) := (blk_cell h 0).trans rfl
theorem IsS171.set_0 {w0 W : World} {g : Nat} {f0 : Int} {f1 : Int} {f2 : Int} (h : IsS171 w0 W g f0 f1 f2) (x : Int) : IsS171 w0 (W.setCell ⟨g, 0, none⟩ (.int .u64 x)) g x f1 f2 := by
  obtain ⟨hb, hg⟩ := h
  exact ⟨by simpa using blk_set hb 0 (.int .u64 x), hg⟩
theorem cellS171_1 {W : World} {g : Nat} {f0 : Int} {f1 : Int} {f2 : Int} (h : W.heap[g]? = some (.cells #[.int .u64 f0, .int .u64 f1, .int .i64 f2] 171 (0, 0))) : W.cell? ⟨g, 1, none⟩ = some (.int .u64 f1) := (blk_cell h 1).trans rfl
theorem IsS171.set_1 {w0 W : World} {g : Nat} {f0 : Int} {f1 : Int} {f2 : Int} (h : IsS171 w0 W g f0 f1 f2) (x : Int) : IsS171 w0 (W.setCell ⟨g, 1, none⟩ (.int .u64 x)) g f0 x f2 := by
  obtain ⟨hb, hg⟩ := h
  exact ⟨by simpa using blk_set hb 1 (.int .u64 x), hg⟩
theorem cellS171_2 {W : World} {g : Nat} {f0 : Int} {f1 : Int} {f2 : Int} (h : W.heap[g]? = some (.cells #[.int .u64 f0, .int .u64 f1, .int .i64 f2] 171 (0, 0))) : W.cell? ⟨g, 2, none⟩ = some (.int .i64 f2) := (blk_cell h 2).trans rfl
theorem IsS171.set_2 {w0 W : World} {g : Nat} {f0 : Int} {f1 : Int} {f2 : Int} (h : IsS171 w0 W g f0 f1 f2) (x : Int) : IsS171 w0 (W.setCell ⟨g, 2, none⟩ (.int .i64 x)) g f0 f1 x := by
  obtain ⟨hb, hg⟩ := h
  exact ⟨by simpa using blk_set hb 2 (.int .i64 x), hg⟩
theorem IsS171.new (w0 W : World) (f0 : Int) (f1 : Int) (f2 : Int) (hB : Below w0.heap.size w0 W) : IsS171 w0 (W.alloc (.cells #[.int .u64 f0, .int .u64 f1, .int .i64 f2] 171)) W.heap.size f0 f1 f2 := ⟨by simpa using heap_alloc_new W _, hB.size⟩

end Go.Proofs.YtkogipaaioibaaaGreatDoor.PAll
