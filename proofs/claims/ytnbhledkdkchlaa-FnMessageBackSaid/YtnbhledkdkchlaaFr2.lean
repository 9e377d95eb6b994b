/- Frames: ReadFull. (seat r2) -/
import Derived.Test.YtnbhledkdkchlaaFr1
import Derived.Deep.CutBlock
namespace Go.Proofs.Ytnbhledkdkchlaa
set_option linter.unusedVariables false
set_option linter.unusedSimpArgs false
open Go.RowKit Go.Proofs.YtnbhledkdkchlaaW.PrintWords Go.Proofs.YtnbhledkdkchlaaW.PrintLast Go.Proofs.YtnbhledkdkchlaaW.PrintMore
open PAll (info5)

theorem setCells_grown (b : Nat) : ∀ (vs : List Value) (o : Nat) (w : World), w.grownBy (w.setCells b o vs) (some b) := by
  intro vs
  induction vs with
  | nil => intro o w; exact World.grownBy.refl w _
  | cons v r ih => intro o w; exact grown_trans' (grown_set (World.grownBy.refl w _) o v) (ih (o + 1) (w.setCell ⟨b, o, none⟩ v))
theorem setCells_at (b : Nat) (q : TypeId) : ∀ (vs pre mid post : List Value) (w : World), w.heap[b]? = some (.cells (pre ++ (mid ++ post)).toArray q (0, 0)) → mid.length = vs.length →
    (w.setCells b pre.length vs).heap[b]? = some (.cells (pre ++ (vs ++ post)).toArray q (0, 0)) := by
  intro vs
  induction vs with
  | nil =>
    intro pre mid post w h hl
    obtain rfl : mid = [] := List.eq_nil_of_length_eq_zero hl
    exact h
  | cons v r ih =>
    intro pre mid post w h hl
    cases mid with
    | nil => simp at hl
    | cons m mid =>
      have h1 := blk_put (cs' := ((pre ++ [v]) ++ (mid ++ post)).toArray) h pre.length v (by simp [List.set_append])
      have h2 := ih (pre ++ [v]) mid post (w.setCell ⟨b, pre.length, none⟩ v) h1 (by simpa using hl)
      rw [List.length_append] at h2
      have e3 : pre ++ [v] ++ (r ++ post) = pre ++ (v :: r ++ post) := by simp
      rw [e3] at h2
      exact h2

/-- A buffer: a block of bytes. -/
def Bf (w : World) (g q : Nat) (ys : List Int) : Prop := w.heap[g]? = some (.cells (nums .u8 ys).toArray q (0, 0))
theorem Bf.copied {w : World} {g q : Nat} {ys zs : List Int} (h : Bf w g q ys) (hz : zs.length ≤ ys.length) : Bf (w.setCells g 0 (nums .u8 zs)) g q (zs ++ ys.drop zs.length) := by
  have e : nums .u8 ys = [] ++ (nums .u8 (ys.take zs.length) ++ nums .u8 (ys.drop zs.length)) := by
    unfold nums
    rw [← List.map_append, List.take_append_drop]
    rfl
  unfold Bf at h ⊢
  rw [e] at h
  have h1 := setCells_at g q (nums .u8 zs) [] _ _ w h (by unfold nums; simp; omega)
  have e0 : ([] : List Value).length = 0 := rfl
  rw [e0] at h1
  rw [h1]
  unfold nums
  simp
theorem Bf.cell {w : World} {g q : Nat} {ys : List Int} (h : Bf w g q ys) (j : Nat) (hj : j < ys.length) : w.cell? ⟨g, j, none⟩ = some (.int .u8 (ys.getD j 0)) := by
  have h1 := blk_cell h j
  rw [h1]
  unfold nums
  simp [hj, List.getD_eq_getElem?_getD]
theorem Bf.reads {w : World} {g q : Nat} {ys : List Int} (h : Bf w g q ys) (hm : ys.length ≤ 1000000000) : ReadsInt w .u8 (some ⟨g, 0, none⟩) ys.length ys :=
  ⟨rfl, by omega, fun _ => ⟨_, rfl, fun j hj => by rw [add_plain]; exact h.cell j hj⟩⟩

set_option maxRecDepth 100000 in
theorem copy_run {w : World} {rb src off c g q : Nat} {xs ys : List Int} {bf : Int} {ty : TypeId} (mc : Nat) (hb : Bf w g q ys) (h : RB w rb src off c xs bf) (hs : g ≠ src) (hm : ys.length ≤ 1000000000) :
    (Builtin.copy_ #[69, 69] ty #[.slice (some ⟨g, 0, none⟩) ys.length mc, .slice (some ⟨src, off, none⟩) xs.length c]).run Try.prog w = .ok (.int .i64 ((min xs.length ys.length : Nat) : Int)) (w.setCells g 0 (nums .u8 (xs.take ys.length))) := by
  have hinfo : (Try.prog.info? 5).map (·.size) = some 1 := by kernel_rfl
  have hln : (nums .u8 (xs.take ys.length)).length = Nat.min xs.length ys.length := by unfold nums; rw [List.length_map, List.length_take]; exact Nat.min_comm _ _
  have hr := run_copy_cells (P := Try.prog) w 69 69 ty 5 g 0 ys.length mc ⟨src, off, none⟩ xs.length c (nums .u8 (xs.take ys.length)) Try.underlying69 hinfo hln ?_ ?_ ?_ ?_
  · rw [hr, hln]
    rfl
  · intro j v hj
    have hjl := (List.getElem?_eq_some_iff.1 hj).1
    have hjx : j < xs.length := by rw [hln] at hjl; exact Nat.lt_of_lt_of_le hjl (Nat.min_le_left _ _)
    obtain ⟨ad, he, hc⟩ := h.row.2.2 (by omega)
    injection he with he
    subst he
    rw [hc j hjx]
    unfold nums at hj
    rw [List.getElem?_map, List.getElem?_take] at hj
    split at hj
    · rw [List.getElem?_eq_getElem hjx] at hj
      simp only [Option.map_some, Option.some.injEq] at hj
      rw [← hj, List.getD_eq_getElem?_getD, List.getElem?_eq_getElem hjx]
      rfl
    · simp at hj
  · intro j hj
    rw [hln] at hj
    rw [Nat.zero_add, hb.cell j (Nat.lt_of_lt_of_le hj (Nat.min_le_right _ _))]
    rfl
  · intro j hj
    exact blk_frozen hb _
  · intro v hv
    unfold nums at hv
    obtain ⟨a, _, rfl⟩ := List.mem_map.1 hv
    rfl
theorem RB.cells {w : World} {rb src off c : Nat} {xs : List Int} {bf : Int} (h : RB w rb src off c xs bf) : w.cell? ⟨rb, 0, none⟩ = some (.slice (some ⟨src, off, none⟩) xs.length c) ∧ w.cell? ⟨rb, 1, none⟩ = some (.int .i64 bf) := ⟨blk_cell h.box 0, blk_cell h.box 1⟩
theorem drop_min {xs ys : List Int} {k : Nat} (h : min xs.length ys.length = k) : xs.drop k = xs.drop ys.length := by
  rcases Nat.le_total ys.length xs.length with h1 | h1
  · rw [show k = ys.length by omega]
  · rw [show k = xs.length by omega, List.drop_length, List.drop_of_length_le h1]
theorem fr_keep {w w1 w2 w3 : World} {rb g : Nat} (h1 : w.grownBy w1 (some rb)) (h2 : w1.grownBy w2 (some g)) (h3 : w2.grownBy w3 (some rb)) :
    (∀ i, i < w.heap.size → i ≠ rb → i ≠ g → w3.heap[i]? = w.heap[i]?) ∧ w.heap.size ≤ w3.heap.size ∧ w3.os = w.os ∧ w3.tape = w.tape ∧ w3.output = w.output := by
  refine ⟨fun i hi hr hg => ?_, Nat.le_trans h1.size (Nat.le_trans h2.size h3.size), h3.os.trans (h2.os.trans h1.os), h3.tape.trans (h2.tape.trans h1.tape), h3.output.trans (h2.output.trans h1.output)⟩
  have e1 := h1.block i hi (by intro he; injection he with he; exact hr he)
  have e2 := h2.block i (Nat.lt_of_lt_of_le hi h1.size) (by intro he; injection he with he; exact hg he)
  have e3 := h3.block i (Nat.lt_of_lt_of_le hi (Nat.le_trans h1.size h2.size)) (by intro he; injection he with he; exact hr he)
  exact e3.trans (e2.trans e1)
theorem full_bf {w2 w3 : World} {rb g q : Nat} {xs ys : List Int} (hb : Bf w2 g q (xs.take ys.length ++ ys.drop (xs.take ys.length).length)) (h3 : w2.grownBy w3 (some rb)) (hg : g ≠ rb) : Bf w3 g q (xs.take ys.length ++ ys.drop xs.length) := by
  have e : ys.drop (xs.take ys.length).length = ys.drop xs.length := by
    rw [List.length_take]
    rcases Nat.le_total ys.length xs.length with h1 | h1
    · rw [Nat.min_eq_left h1, List.drop_length, List.drop_of_length_le h1]
    · rw [Nat.min_eq_right h1]
  rw [e] at hb
  exact (h3.block g (blk_lt hb) (by intro he; injection he with he; exact hg he)).trans hb

/-- What ReadFull leaves. -/
def FullR (rb src g q : Nat) (xs ys : List Int) (w : World) (e : Ending) (w' : World) : Prop :=
  ∃ (n : Int) (ev : Value) (off' c' : Nat) (bf' : Int), e = .returned (.tuple #[.int .i64 n, ev]) ∧ RB w' rb src off' c' (xs.drop ys.length) bf' ∧ Bf w' g q (xs.take ys.length ++ ys.drop xs.length) ∧
    (ys.length ≤ xs.length → ev = .nilIface) ∧ (xs.length < ys.length → ∃ t v, ev = .iface t v) ∧ (∀ i, i < w.heap.size → i ≠ rb → i ≠ g → w'.heap[i]? = w.heap[i]?) ∧ w.heap.size ≤ w'.heap.size ∧ w'.os = w.os ∧ w'.tape = w.tape ∧ w'.output = w.output

set_option maxHeartbeats 4000000 in
set_option maxRecDepth 100000 in
theorem full_any {rb src off c : Nat} {xs : List Int} {bf : Int} (g q mc : Nat) (ys : List Int) (w : World) (h : RB w rb src off c xs bf) (hb : Bf w g q ys) (hg : g ≠ rb) (hs : g ≠ src) (hm : 0 < ys.length) (hm2 : ys.length ≤ 1000000000) (hmc : ys.length ≤ mc) :
    Calls Try.prog 71 #[.pointer (some ⟨rb, 0, none⟩), .slice (some ⟨g, 0, none⟩) ys.length mc] w fun e w' => FullR rb src g q xs ys w e w' := by
  have c0 : w.cell? ⟨rb, 0, none⟩ = some (.slice (some ⟨src, off, none⟩) xs.length c) := blk_cell h.box 0
  have c1 : w.cell? ⟨rb, 1, none⟩ = some (.int .i64 bf) := blk_cell h.box 1
  have c2 : w.cell? ⟨rb, 2, none⟩ = some (.int .i64 4096) := blk_cell h.box 2
  have HH := Aside0.mk h
  have HBF := Aside0.mk hb
  have hbg : (xs.length : Int) ≤ 1000000000 := by have := h.big; omega
  have hmi : (0 : Int) < (ys.length : Int) := by omega
  have hmi2 : (ys.length : Int) ≤ 1000000000 := by omega
  have HG := Aside0.mk (And.intro hg hs)
  clear h hb hg hs
  go_enter Try.func71, Try.ntmps71
  by_cases hc : 0 < xs.length ∧ bf = 0 ∧ ys.length < 4096
  · obtain ⟨h1, rfl, h3⟩ := hc
    have h1i : (0 : Int) < (xs.length : Int) := by omega
    have h3i : (ys.length : Int) < 4096 := by omega
    have HFL := Aside0.mk (fill_any w HH.out)
    go_wp2_with fail
    refine (HFL.out).mono ?_
    rintro e w1 ⟨r, bf1, rfl, hr1, hg1⟩
    have HR1 := Aside0.mk hr1
    have HB1 := Aside0.mk (show Bf w1 g q ys from (hg1.block g (blk_lt HBF.out) (by intro he; injection he with he; exact HG.out.1 he)).trans HBF.out)
    have HG1 := Aside0.mk hg1
    clear hr1 hg1 HFL c0 c1 c2 HBF HH
    · obtain ⟨k, hk⟩ : ∃ k, min xs.length ys.length = k := ⟨_, rfl⟩
      have HKK := Aside0.mk hk
      have hcp := fun ty => copy_run (ty := ty) mc HB1.out HR1.out HG.out.2 hm2
      rw [hk] at hcp
      have hkx : k ≤ xs.length := by omega
      have HW2 := Aside0.mk (And.intro (HR1.out.keep ((setCells_grown g (nums .u8 (xs.take ys.length)) 0 w1).block rb (blk_lt HR1.out.box) (by intro he; injection he with he; exact HG.out.1 he.symm)) ((setCells_grown g (nums .u8 (xs.take ys.length)) 0 w1).block src HR1.out.lt (by intro he; injection he with he; exact HG.out.2 he.symm)) (setCells_grown g (nums .u8 (xs.take ys.length)) 0 w1).size) (And.intro (HB1.out.copied (zs := xs.take ys.length) (by rw [List.length_take]; omega)) (setCells_grown g (nums .u8 (xs.take ys.length)) 0 w1)))
      have HTK := Aside0.mk (take_any k _ HW2.out.1 hkx)
      obtain ⟨d0, d1⟩ := HR1.out.cells
      clear hk hkx
      go_wp2_with fail
      refine (HTK.out).mono ?_
      rintro e w3 ⟨v, off', c', bf', rfl, hr3, hg3⟩
      have HR3 := Aside0.mk hr3
      have HG3 := Aside0.mk (And.intro (fr_keep HG1.out HW2.out.2.2 hg3) (full_bf HW2.out.2.1 hg3 HG.out.1))
      clear hr3 hg3 HTK HW2 hcp
      have HD := Aside0.mk (show xs.drop k = xs.drop ys.length by have := HKK.out; exact drop_min this)
      by_cases hle : ys.length ≤ xs.length
      · have hke : (k : Int) = (ys.length : Int) := by have := HKK.out; omega
        have hke2 : k = ys.length := by omega
        go_wp2_with fail
        go_ret2
        exact ⟨_, .nilIface, off', c', bf', rfl, by rw [← HD.out]; exact HR3.out, HG3.out.2, fun _ => rfl, fun h => by omega, HG3.out.1⟩
      · have hke : ¬ (k : Int) = (ys.length : Int) := by have := HKK.out; omega
        have hke2 : ¬ k = ys.length := by omega
        by_cases hk0 : (k : Int) = 0
        · go_wp2_with fail
          go_ret2
          exact ⟨_, _, off', c', bf', rfl, by rw [← HD.out]; exact HR3.out, HG3.out.2, fun h => by omega, fun _ => ⟨_, _, rfl⟩, HG3.out.1⟩
        · have hk02 : ¬ k = 0 := by omega
          go_wp2_with fail
          go_ret2
          exact ⟨_, _, off', c', bf', rfl, by rw [← HD.out]; exact HR3.out, HG3.out.2, fun h => by omega, fun _ => ⟨_, _, rfl⟩, HG3.out.1⟩
  · have HR1 := HH
    have HB1 := HBF
    have HG1 := Aside0.mk (World.grownBy.refl w (some rb))
    rcases (show ¬ 0 < xs.length ∨ (0 < xs.length ∧ ¬ bf = 0) ∨ (0 < xs.length ∧ bf = 0 ∧ ¬ ys.length < 4096) by omega) with hz | ⟨h1, h2⟩ | ⟨h1, h2, h3⟩
    all_goals
      clear hc HH HBF
      obtain ⟨k, hk⟩ : ∃ k, min xs.length ys.length = k := ⟨_, rfl⟩
      have HKK := Aside0.mk hk
      have hcp := fun ty => copy_run (ty := ty) mc HB1.out HR1.out HG.out.2 hm2
      rw [hk] at hcp
      have hkx : k ≤ xs.length := by omega
      have HW2 := Aside0.mk (And.intro (HR1.out.keep ((setCells_grown g (nums .u8 (xs.take ys.length)) 0 w).block rb (blk_lt HR1.out.box) (by intro he; injection he with he; exact HG.out.1 he.symm)) ((setCells_grown g (nums .u8 (xs.take ys.length)) 0 w).block src HR1.out.lt (by intro he; injection he with he; exact HG.out.2 he.symm)) (setCells_grown g (nums .u8 (xs.take ys.length)) 0 w).size) (And.intro (HB1.out.copied (zs := xs.take ys.length) (by rw [List.length_take]; omega)) (setCells_grown g (nums .u8 (xs.take ys.length)) 0 w)))
      have HTK := Aside0.mk (take_any k _ HW2.out.1 hkx)
      obtain ⟨d0, d1⟩ := HR1.out.cells
      clear hk hkx
      go_wp2_with fail
      refine (HTK.out).mono ?_
      rintro e w3 ⟨v, off', c', bf', rfl, hr3, hg3⟩
      have HR3 := Aside0.mk hr3
      have HG3 := Aside0.mk (And.intro (fr_keep HG1.out HW2.out.2.2 hg3) (full_bf HW2.out.2.1 hg3 HG.out.1))
      clear hr3 hg3 HTK HW2 hcp
      have HD := Aside0.mk (show xs.drop k = xs.drop ys.length by have := HKK.out; exact drop_min this)
      by_cases hle : ys.length ≤ xs.length
      · have hke : (k : Int) = (ys.length : Int) := by have := HKK.out; omega
        have hke2 : k = ys.length := by omega
        go_wp2_with fail
        go_ret2
        exact ⟨_, .nilIface, off', c', bf', rfl, by rw [← HD.out]; exact HR3.out, HG3.out.2, fun _ => rfl, fun h => by omega, HG3.out.1⟩
      · have hke : ¬ (k : Int) = (ys.length : Int) := by have := HKK.out; omega
        have hke2 : ¬ k = ys.length := by omega
        by_cases hk0 : (k : Int) = 0
        · go_wp2_with fail
          go_ret2
          exact ⟨_, _, off', c', bf', rfl, by rw [← HD.out]; exact HR3.out, HG3.out.2, fun h => by omega, fun _ => ⟨_, _, rfl⟩, HG3.out.1⟩
        · have hk02 : ¬ k = 0 := by omega
          go_wp2_with fail
          go_ret2
          exact ⟨_, _, off', c', bf', rfl, by rw [← HD.out]; exact HR3.out, HG3.out.2, fun h => by omega, fun _ => ⟨_, _, rfl⟩, HG3.out.1⟩
end Go.Proofs.Ytnbhledkdkchlaa
