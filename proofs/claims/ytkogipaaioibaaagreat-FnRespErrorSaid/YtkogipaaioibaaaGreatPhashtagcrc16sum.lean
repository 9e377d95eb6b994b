/- The Lean function of hashtag_crc16sum and its contract: the Go function comes to exactly what the Lean function answers (laid by the kit's print program). -/
import Derived.Test.YtkogipaaioibaaaGreatPAllx0
import Derived.Test.YtkogipaaioibaaaGreatPhashtagcrc16of
namespace Go.Proofs.YtkogipaaioibaaaGreat.PAll
open Go.RowKit Go.Proofs.YtkogipaaioibaaaGreatW.PrintWords Go.Proofs.YtkogipaaioibaaaGreatW.PrintLast Go.Proofs.YtkogipaaioibaaaGreatW.PrintMore
attribute [local go_sem] max2_int min2_int max_two min_two max_three min_three max_four min_four   -- for this text's walks alone
set_option linter.unusedVariables false
set_option linter.unusedSimpArgs false
/-- A state of type 123 at block g of W; what its slices lead to came in by w0. -/
def IsS123 (w0 W : World) (g : Nat) (f0 : ByteArray) : Prop := W.heap[g]? = some (.cells #[.string f0] 123 (0, 0)) ∧ w0.heap.size ≤ g
theorem IsS123.grown {w0 W : World} {g : Nat} {f0 : ByteArray} {W1 : World} {row : Option Nat} (h : IsS123 w0 W g f0) (hw : W.grownBy W1 row) (hne : some g ≠ row) : IsS123 w0 W1 g f0 := by
  obtain ⟨hb, hg⟩ := h
  exact ⟨blk_grown hb hw hne, hg⟩
theorem IsS123.own_neN {w0 W : World} {g : Nat} {f0 : ByteArray} {α : Type} {d : Kd α} {e : Nat} {base : Nat} {ok : Nat → Prop} {v : Value} {xs : List α} (h : IsS123 w0 W g f0) (ho : Kd.N d e W base ok v xs) (ht : e ≠ 123) : some g ≠ v.ownBlock := by
  obtain ⟨hb, hg⟩ := h
  exact Kd.N_ne ho hb ht
theorem IsS123.fresh {w0 W : World} {g : Nat} {f0 : ByteArray} (h : IsS123 w0 W g f0) : ∀ k, W.heap.size ≤ k → k ≠ g := by
  obtain ⟨hb, hg⟩ := h
  exact Kd.freshB hb
theorem IsS123.kept {w0 W : World} {g : Nat} {f0 : ByteArray} {W1 : World} {S : Nat → Prop} (h : IsS123 w0 W g f0) (hk : Kept W W1 S) (hne : ¬ S g) : IsS123 w0 W1 g f0 := by
  obtain ⟨hb, hg⟩ := h
  exact ⟨blk_kept hb hk hne, hg⟩
theorem IsS123.below {w0 W : World} {g : Nat} {f0 : ByteArray} {W1 : World} (h : IsS123 w0 W g f0) (hw : Below W.heap.size W W1) : IsS123 w0 W1 g f0 := h.grown (grown_of_below hw none) (by simp)
theorem IsS123.alloc {w0 W : World} {g : Nat} {f0 : ByteArray} (h : IsS123 w0 W g f0) (o : Obj) : IsS123 w0 (W.alloc o) g f0 := h.below (below_alloc (Below.refl _ _) o)
theorem IsS123.drewN {w0 W : World} {g : Nat} {f0 : ByteArray} (h : IsS123 w0 W g f0) (m : Nat) : IsS123 w0 (W.drewN m) g f0 := h
theorem IsS123.drew {w0 W : World} {g : Nat} {f0 : ByteArray} (h : IsS123 w0 W g f0) : IsS123 w0 W.drew g f0 := h
theorem IsS123.at_ {w0 W : World} {g : Nat} {f0 : ByteArray} {w' : World} {m : Nat} (hq : W.drewN m = w') (h : IsS123 w0 W g f0) : IsS123 w0 w' g f0 := by subst hq; exact IsS123.drewN h m
theorem IsS123.apart {w0 W : World} {g : Nat} {f0 : ByteArray} {α : Type} {d : Kd α} {e : Nat} {base : Nat} {ok : Nat → Prop} {v : Value} {xs : List α} (h : IsS123 w0 W g f0) (ho : d.R e W base ok v xs) (ht : ∀ q, q ∈ e :: d.E → q ≠ 123) : d.R e W base (fun k => ok k ∧ k ≠ g) v xs := by
  obtain ⟨hb, hg⟩ := h
  exact Kd.R_types ho hb ht
theorem IsS123.own_ne {w0 W : World} {g : Nat} {f0 : ByteArray} {α : Type} {d : Kd α} {e : Nat} {base : Nat} {ok : Nat → Prop} {v : Value} {xs : List α} (h : IsS123 w0 W g f0) (ho : d.R e W base ok v xs) (ht : e ≠ 123) : some g ≠ v.ownBlock := by
  obtain ⟨hb, hg⟩ := h
  exact Kd.R_ne ho hb ht
theorem IsS123.apartQ {w0 W : World} {g : Nat} {f0 : ByteArray} {α : Type} {d : Kd α} {e : Nat} {base : Nat} {ok : Nat → Prop} {v : Value} {xs : List α} (h : IsS123 w0 W g f0) (ho : d.Q e W base ok v xs) (ht : ∀ q, q ∈ e :: d.E → q ≠ 123) : d.Q e W base (fun k => ok k ∧ k ≠ g) v xs := by
  obtain ⟨hb, hg⟩ := h
  exact Kd.Q_types ho hb ht
theorem IsS123.own_neQ {w0 W : World} {g : Nat} {f0 : ByteArray} {α : Type} {d : Kd α} {e : Nat} {base : Nat} {ok : Nat → Prop} {v : Value} {xs : List α} (h : IsS123 w0 W g f0) (ho : d.Q e W base ok v xs) (ht : e ≠ 123) : some g ≠ v.ownBlock := by
  obtain ⟨hb, hg⟩ := h
  exact Kd.Q_ne ho hb ht
theorem IsS123.apartS {w0 W : World} {g : Nat} {f0 : ByteArray} {α : Type} {d : Kd α} {e : Nat} {base : Nat} {ok : Nat → Prop} {v : Value} {xs : List α} (h : IsS123 w0 W g f0) (ho : d.S e W base ok v xs) (ht : ∀ q, q ∈ e :: d.E → q ≠ 123) : d.S e W base (fun k => ok k ∧ k ≠ g) v xs := by
  obtain ⟨hb, hg⟩ := h
  exact Kd.S_types ho hb ht
theorem IsS123.own_neS {w0 W : World} {g : Nat} {f0 : ByteArray} {α : Type} {d : Kd α} {e : Nat} {base : Nat} {ok : Nat → Prop} {v : Value} {xs : List α} (h : IsS123 w0 W g f0) (ho : d.S e W base ok v xs) (ht : e ≠ 123) : some g ≠ v.ownBlock := by
  obtain ⟨hb, hg⟩ := h
  exact Kd.S_ne ho hb ht
theorem IsS123.lt {w0 W : World} {g : Nat} {f0 : ByteArray} (h : IsS123 w0 W g f0) : g < W.heap.size := by
  obtain ⟨hb, hg⟩ := h
  exact blk_lt hb
theorem IsS123.ge {w0 W : World} {g : Nat} {f0 : ByteArray} (h : IsS123 w0 W g f0) : w0.heap.size ≤ g := by
  obtain ⟨hb, hg⟩ := h
  exact hg
theorem IsS123.ne_blk {w0 W : World} {g : Nat} {f0 : ByteArray} {a : Nat} {cs : Array Value} {t : TypeId} {fr : Nat × Nat} (h : IsS123 w0 W g f0) (hb2 : W.heap[a]? = some (.cells cs t fr)) (ht : t ≠ 123) : g ≠ a := by
  obtain ⟨hb, hg⟩ := h
  rintro rfl
  rw [hb] at hb2
  injection hb2 with hb2
  injection hb2 with _ ht2
  exact ht ht2.symm
theorem IsS123.far {w0 W : World} {g : Nat} {f0 : ByteArray} {p : Addr} (h : IsS123 w0 W g f0) (hne : g ≠ p.block) (u : Value) : IsS123 w0 (W.setCell p u) g f0 := by
  obtain ⟨hb, hg⟩ := h
  exact ⟨blk_far hb hne u, hg⟩
theorem cellS123_0 {W : World} {g : Nat} {f0 : ByteArray} (h : W.heap[g]? = some (.cells #[.string f0] 123 (0, 0))) : W.cell? ⟨g, 0, none⟩ = some (.string f0) := (blk_cell h 0).trans rfl
theorem IsS123.set_0 {w0 W : World} {g : Nat} {f0 : ByteArray} (h : IsS123 w0 W g f0) (x : ByteArray) : IsS123 w0 (W.setCell ⟨g, 0, none⟩ (.string x)) g x := by
  obtain ⟨hb, hg⟩ := h
  exact ⟨by simpa using blk_set hb 0 (.string x), hg⟩
theorem IsS123.new (w0 W : World) (f0 : ByteArray) (hB : Below w0.heap.size w0 W) : IsS123 w0 (W.alloc (.cells #[.string f0] 123)) W.heap.size f0 := ⟨by simpa using heap_alloc_new W _, hB.size⟩

/-! ### hashtag_crc16sum: function 70 -/
def hashtag_crc16sum.l0 : Nat → ByteArray → Int → Int → Option (Int)
  | 0, _, _, _ => none
  | k + 1, x0, x2, x3 => if x3 < (x0.size : Int) then (if 0 ≤ x3 then ((hashtag_crc16of.f (Go.bits .and .u8 (Go.bits .xor .u8 ((x2 / 256) % 256) (bt x0 x3)) 255)).bind fun t167 => (hashtag_crc16sum.l0 k x0 (Go.bits .xor .u16 (IntKind.u16.wrap (x2 * 256)) t167) (wrap64 (x3 + 1)))) else (none)) else (some x2)
def hashtag_crc16sum.f (k : Nat) (a0 : ByteArray) : Option (Int) := hashtag_crc16sum.l0 k a0 0 0
theorem hashtag_crc16sum.mono_l : ∀ k, (∀ y0 y1 y2, LeO (hashtag_crc16sum.l0 k y0 y1 y2) (hashtag_crc16sum.l0 (k + 1) y0 y1 y2))
  | 0 => fun _ _ _ r h => by simp [hashtag_crc16sum.l0] at h
  | k + 1 => by
    have ih0 := hashtag_crc16sum.mono_l k
    · intro y0 y1 y2
      unfold hashtag_crc16sum.l0
      repeat' first
      | (with_reducible exact ih0 _ _ _)
      | (with_reducible exact LeO.refl _)
      | (with_reducible exact LeO.none _)
      | (with_reducible refine LeO.ite ?_ ?_)
      | (with_reducible refine LeO.bind ?_ (fun _ => ?_))
      | exact ih0 _ _ _
      | exact LeO.none _
      | refine LeO.ite ?_ ?_
      | refine LeO.bind ?_ (fun _ => ?_)
theorem hashtag_crc16sum.mono : ∀ a0 k, LeO (hashtag_crc16sum.f k a0) (hashtag_crc16sum.f (k + 1) a0) := by
  intro a0 k
  have ih0 := hashtag_crc16sum.mono_l k
  unfold hashtag_crc16sum.f
  repeat' first
      | (with_reducible exact ih0 _ _ _)
      | (with_reducible exact LeO.refl _)
      | (with_reducible exact LeO.none _)
      | (with_reducible refine LeO.ite ?_ ?_)
      | (with_reducible refine LeO.bind ?_ (fun _ => ?_))
      | exact ih0 _ _ _
      | exact LeO.none _
      | refine LeO.ite ?_ ?_
      | refine LeO.bind ?_ (fun _ => ?_)
set_option maxHeartbeats 8000000 in
set_option maxRecDepth 100000 in
theorem hashtag_crc16sum.calls (k : Nat) (a0 : ByteArray) (r : Int) (w : World) (h : hashtag_crc16sum.f k a0 = some r) :
    Calls Tryz.prog 70 #[.string a0] w fun e w' => e = .returned (.int .u16 r) ∧ Drawn0 w w' := by
  have H : (hashtag_crc16sum.l0 k a0 0 0) = some r := h
  clear h
  have H' := Aside0.mk H
  clear H
  go_enter Tryz.func70, Tryz.ntmps70
  go_wp2
  go_loopg [2, 3] k (fun kq v2 v3 w' => ∃ (x2_1 : Int) (x3_1 : Int), v2 = .int .u16 x2_1 ∧ v3 = .int .i64 x3_1 ∧ Aside0 (hashtag_crc16sum.l0 kq a0 x2_1 x3_1 = some r) ∧ Aside0 (kq ≤ k) ∧ Drawn0 w w')
  case atStart => exact ⟨(0), (0), (by first | rfl | (simp; done) | (simp [*]; done)), (by first | rfl | (simp; done) | (simp [*]; done)), H', ⟨Nat.le_refl _⟩, by repeat (first | exact Drawn0.refl _ | apply Drawn0.step)⟩
  case round =>
    clear H'
    try clear c1
    obtain ⟨x2_1, x3_1, rfl, rfl, HA, HK1, ⟨m1, rfl⟩⟩ := hrel
    cases gk with
    | zero => exact absurd HA.out (by simp [hashtag_crc16sum.l0])
    | succ k1 =>
      have H := HA.out
      clear HA
      simp only [hashtag_crc16sum.l0] at H
      by_cases c2 : x3_1 < (a0.size : Int)
      · rw [if_pos c2] at H
        have c2b0 : decide (x3_1 < (a0.size : Int)) = true := decide_eq_true c2
        clear c2
        by_cases c3 : 0 ≤ x3_1
        · rw [if_pos c3] at H
          have c3b0 : decide (0 ≤ x3_1) = true := decide_eq_true c3
          clear c3
          replace H := Option.bind_eq_some_iff.mp H
          obtain ⟨t167, A50, H⟩ := H
          replace H : (hashtag_crc16sum.l0 k1 a0 (Go.bits .xor .u16 (IntKind.u16.wrap (x2_1 * 256)) t167) (wrap64 (x3_1 + 1))) = some r := H
          have A5 := Aside0.mk A50
          clear A50
          have H' := Aside0.mk H
          clear H
          have p4 : 0 ≤ (x3_1 : Int) := of_decide_eq_true (by first | (with_reducible assumption) | assumption)
          have q4 : x3_1 < (a0.size : Int) := of_decide_eq_true (by first | (with_reducible assumption) | assumption)
          have hx4 := bt_at a0 x3_1
          replace p4 := eq_true p4
          replace q4 := eq_true q4
          go_wp2_with (first | ((with_reducible refine gate_callee (f := 79) rfl ?_); refine goesL_ (some 20) rfl rfl Tryz.func79 (by kernel_rfl) rfl #[.int .u8 (Go.bits .and .u8 (Go.bits .xor .u8 ((x2_1 / 256) % 256) (bt a0 x3_1)) 255)] rfl (by (try simp only [List.map_toArray, List.map_cons, List.map_nil]); first | done | rfl | (simp only [List.length_drop, List.length_take]; rfl)) ?_; (with_reducible refine (hashtag_crc16of.calls (Go.bits .and .u8 (Go.bits .xor .u8 ((x2_1 / 256) % 256) (bt a0 x3_1)) 255) t167 _ A5.out).mono ?_); rintro e w' ⟨rfl, ⟨nd, rfl⟩⟩; refine ⟨_, rfl, ?_⟩))
          go_roundg k1
          case measure => have := HK1.out; omega
          case rel => exact ⟨(Go.bits .xor .u16 (IntKind.u16.wrap (x2_1 * 256)) t167), (wrap64 (x3_1 + 1)), (by first | rfl | (simp; done) | (simp [*]; done)), (by first | rfl | (simp; done) | (simp [*]; done)), H', ⟨by have := HK1.out; omega⟩, by repeat (first | exact Drawn0.refl _ | apply Drawn0.step)⟩
        · rw [if_neg c3] at H
          exact absurd H (by simp)
      · rw [if_neg c2] at H
        have c2b0 : decide (x3_1 < (a0.size : Int)) = false := decide_eq_false c2
        clear c2
        obtain rfl := Option.some.inj H
        go_wp2
        go_ret
        exact ⟨by first | rfl | (simp; done) | (simp [*]; done), by repeat (first | exact Drawn0.refl _ | apply Drawn0.step)⟩

-- NOT PRINTED: function 41 (hashtag_Slot)

-- NOT PRINTED: function 32 (impl_Slot)

-- NOT PRINTED: function 6 (laws_alive)

-- NOT PRINTED: function 7 (laws_lower)

-- NOT PRINTED: function 3 (laws_FnRespError)

end Go.Proofs.YtkogipaaioibaaaGreat.PAll
