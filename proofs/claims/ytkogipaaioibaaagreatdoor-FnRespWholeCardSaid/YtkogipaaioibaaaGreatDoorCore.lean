/- The packer in memory: what a block that is a packer holds, and what its methods leave alone. -/
import Derived.Test.YtkogipaaioibaaaGreatDoorPAllx0
import Derived.Lib.Hide
namespace Go.Proofs.YtkogipaaioibaaaGreatDoor
open Go.RowKit Go.Proofs.YtkogipaaioibaaaGreatDoorW.PrintWords

/-- Block bp is a packer without an error, whose buffer holds the bytes xs. -/
def PB (w : World) (B bp : Nat) (xs : List Int) : Prop :=
  ∃ v, w.heap[bp]? = some (.cells #[v, .nilIface] 69 (0, 0)) ∧ w.ownsRow B 5 1 v xs.length (nums .u8 xs)

/-- What a method of the packer bp leaves: all below B, and all that is no row of bytes, but for bp. -/
structure Fr (B bp : Nat) (w w' : World) : Prop where
  os : w'.os = w.os
  tape : w'.tape = w.tape
  output : w'.output = w.output
  size : w.heap.size ≤ w'.heap.size
  blk : ∀ i, i < w.heap.size → i ≠ bp → (i < B ∨ ∀ cs fr, w.heap[i]? ≠ some (.cells cs 5 fr)) → w'.heap[i]? = w.heap[i]?

section
variable {B bp : Nat} {w w' w1 w2 : World}
theorem Fr.refl (B bp : Nat) (w : World) : Fr B bp w w := ⟨rfl, rfl, rfl, Nat.le_refl _, fun _ _ _ _ => rfl⟩
theorem Fr.trans (h : Fr B bp w w1) (k : Fr B bp w1 w2) : Fr B bp w w2 :=
  ⟨k.os.trans h.os, k.tape.trans h.tape, k.output.trans h.output, Nat.le_trans h.size k.size, fun i hi hn hk => by
    have h1 := h.blk i hi hn hk
    have h2 := k.blk i (Nat.lt_of_lt_of_le hi h.size) hn (by rw [h1]; exact hk)
    exact h2.trans h1⟩
theorem Fr.of_below (h : Below w.heap.size w w') : Fr B bp w w' := ⟨h.os, h.tape, h.output, h.size, fun i hi _ _ => h.block i hi⟩
theorem Fr.alloc (h : Fr B bp w w1) (o : Obj) : Fr B bp w (w1.alloc o) := h.trans (Fr.of_below (below_alloc (Below.refl _ _) o))
theorem Fr.drew (h : Fr B bp w w1) : Fr B bp w w1.drew := h.trans (Fr.of_below (below_drew (Below.refl _ _)))
theorem Fr.drewN (h : Fr B bp w w1) (n : Nat) : Fr B bp w (w1.drewN n) := h.trans (Fr.of_below (pw_below_drewN (Below.refl _ _) n))
theorem Fr.of_own {v : Value} {n : Nat} {xs : List Value} (ho : w.ownsRow B 5 1 v n xs) (hg : w.grownBy w' v.ownBlock) : Fr B bp w w' :=
  ⟨hg.os, hg.tape, hg.output, hg.size, fun i hi _ hk => hg.block i hi (fun e => by
    have hb := own_base ho i e.symm
    obtain ⟨cs, hc⟩ := own_typed ho i e.symm
    rcases hk with hk | hk
    · omega
    · exact hk _ _ hc)⟩
theorem Fr.setHere (h : Fr B bp w w1) (j : Nat) (u : Value) : Fr B bp w (w1.setCell ⟨bp, j, none⟩ u) :=
  h.trans ⟨rfl, rfl, rfl, by simp [World.setCell], fun i _ hn _ => Below.heap_setCell w1 _ u i hn⟩
/-- A store into a block that was not there at first. -/
theorem Fr.setNew (h : Fr B bp w w1) {g : Nat} (hg : w.heap.size ≤ g) (j : Nat) (u : Value) : Fr B bp w (w1.setCell ⟨g, j, none⟩ u) :=
  ⟨h.os, h.tape, h.output, by simpa [World.setCell] using h.size, fun i hi hn hk => (Below.heap_setCell w1 _ u i (by show i ≠ g; omega)).trans (h.blk i hi hn hk)⟩
theorem Fr.setNewN (h : Fr B bp w w1) {row : Option Nat} (hr : ∀ g, row = some g → w.heap.size ≤ g) (hg : w1.grownBy w2 row) : Fr B bp w w2 :=
  ⟨hg.os.trans h.os, hg.tape.trans h.tape, hg.output.trans h.output, Nat.le_trans h.size hg.size, fun i hi hn hk => (hg.block i (Nat.lt_of_lt_of_le hi h.size) (fun e => by have := hr i e.symm; omega)).trans (h.blk i hi hn hk)⟩
theorem Fr.below (h : Fr B bp w w') (hB : B ≤ bp) (hs : B ≤ w.heap.size) : Below B w w' :=
  ⟨h.os, h.tape, h.output, h.size, fun i hi => h.blk i (Nat.lt_of_lt_of_le hi hs) (by omega) (.inl hi)⟩
theorem Fr.keep (h : Fr B bp w w') {g : Nat} {t : TypeId} {cs : Array Value} (hb : w.heap[g]? = some (.cells cs t (0, 0))) (hg : g ≠ bp) (ht : t ≠ 5) : w'.heap[g]? = some (.cells cs t (0, 0)) :=
  (h.blk g (blk_lt hb) hg (.inr fun cs' fr e => by rw [hb] at e; injection e with e; injection e with _ e2; exact ht e2)).trans hb

theorem PB.move {xs : List Int} (h : PB w B bp xs) (hb : Below w.heap.size w w') : PB w' B bp xs := by
  obtain ⟨v, h1, h2⟩ := h
  exact ⟨v, (hb.block bp (blk_lt h1)).trans h1, pw_own_below h2 hb⟩
theorem PB.alloc {xs : List Int} (h : PB w B bp xs) (o : Obj) : PB (w.alloc o) B bp xs := h.move (below_alloc (Below.refl _ _) o)
theorem PB.drewN {xs : List Int} (h : PB w B bp xs) (n : Nat) : PB (w.drewN n) B bp xs := h.move (pw_below_drewN (Below.refl _ _) n)
theorem PB.lt {xs : List Int} (h : PB w B bp xs) : bp < w.heap.size := by
  obtain ⟨v, h1, h2⟩ := h
  exact blk_lt h1

/-- The step: the buffer's row has been appended to (v1 in w1), the new value is stored into the packer. -/
theorem pb_put {W : World} {v v1 : Value} {xs ys : List Int} {n : Nat} (hF : Fr B bp w W) (hb : W.heap[bp]? = some (.cells #[v, .nilIface] 69 (0, 0)))
    (ho : W.ownsRow B 5 1 v xs.length (nums .u8 xs)) (hg : W.grownBy w1 v.ownBlock) (hown1 : w1.ownsRow B 5 1 v1 n (nums .u8 ys)) :
    PB (w1.setCell ⟨bp, 0, none⟩ v1) B bp ys ∧ Fr B bp w (w1.setCell ⟨bp, 0, none⟩ v1) := by
  have hb1 := blk_grown hb hg (own_ne ho hb (by decide))
  obtain rfl : ys.length = n := by have := hown1.1; rw [nums_length] at this; omega
  refine ⟨⟨v1, ?_, own_setCell hown1 (own_ne hown1 hb1 (by decide)) v1⟩, (hF.trans (Fr.of_own ho hg)).setHere 0 v1⟩
  have h := blk_set hb1 0 v1
  simpa using h
end

/-- A row inside a block that is known whole. -/
theorem reads_blk {w : World} {g o n : Nat} {cs : Array Value} {t : TypeId} {ys : List Int} (hb : w.heap[g]? = some (.cells cs t (0, 0))) (hl : ys.length = n) (hn : n ≤ 9223372036854775807)
    (h : ∀ j, j < n → cs[o + j]? = some (.int .u8 (ys.getD j 0))) : ReadsInt w .u8 (some ⟨g, o, none⟩) n ys :=
  ⟨hl, hn, fun _ => ⟨_, rfl, fun j hj => by
    have ha : (⟨g, o, none⟩ : Addr).add j = ⟨g, o + j, none⟩ := by unfold Addr.add; split <;> simp_all
    rw [ha, blk_cell hb]
    exact h j hj⟩⟩

theorem addr_block (ad : Addr) (j : Nat) : (ad.add j).block = ad.block := by unfold Addr.add; split <;> rfl
theorem reads_keep {w w' : World} {k : IntKind} {A : Option Addr} {n : Nat} {ys : List Int} (h : ReadsInt w k A n ys) (hk : ∀ ad, A = some ad → ad.block < w.heap.size → w'.heap[ad.block]? = w.heap[ad.block]?) : ReadsInt w' k A n ys :=
  ⟨h.1, h.2.1, fun hn => by
    obtain ⟨ad, e, hc⟩ := h.2.2 hn
    refine ⟨ad, e, fun j hj => ?_⟩
    have hlt : ad.block < w.heap.size := by have := World.block_lt_of_cell? w _ (hc j hj); rwa [addr_block] at this
    rw [← hc j hj]
    exact World.cell?_of_block (by rw [addr_block]; exact hk ad e hlt)⟩
theorem reads2 (w : World) (a b : Int) : ReadsInt (w.alloc (.cells #[.int .u8 a, .int .u8 b] 5)) .u8 (some ⟨w.heap.size, 0, none⟩) 2 [a, b] :=
  reads_blk (heap_alloc_new w _) rfl (by decide) fun j hj => by
    match j, hj with
    | 0, _ => rfl
    | 1, _ => rfl

section
variable {P : Program} {ops : Array Oper} {o : Oper} {a : Act} {Q : Exit → Act → World → Prop} {K : Act → World → Prop} {E : Prop}
/-- append(p.buf, bytes...) at a step of a region that draws. -/
theorem step_append_ints {W : World} {B : Nat} (hgd : o.guard = none) (s x : Operand) (t : TypeId) (ho : o.op = .call { callee := .builtin .append, args := #[s, x], argTypes := #[t, t] })
    (ht : P.underlying t = some (.slice 5)) (hinfo : (P.info? 5).map (fun i => (i.zero, i.size, i.bytes)) = some (some (.int .u8 0), 1, 1))
    (v : Value) (xs ys : List Int) (hs : a.eval s = v) (hown : W.ownsRow B 5 1 v xs.length (nums .u8 xs)) (ad : Addr) (m c : Nat) (hx : a.eval x = .slice (some ad) m c)
    (hr : ReadsInt W .u8 (some ad) m ys) (hm : 0 < m) (hl : xs.length + m ≤ 140737488355328) (hbase : B ≤ W.heap.size)
    (h : ∀ g cap w', w'.ownsRow B 5 1 (.slice (some ⟨g, 0, none⟩) (xs.length + m) cap) (xs.length + m) (nums .u8 (xs ++ ys)) → W.grownBy w' v.ownBlock → K (a.put o.dst (.slice (some ⟨g, 0, none⟩) (xs.length + m) cap)) w') :
    if Region.wanted o (yielded ops a.tmps) = true then Oper.wp P o a W K Q else E := by
  obtain ⟨i0, hi, hzz⟩ := Option.map_eq_some_iff.1 hinfo
  simp only [Prod.mk.injEq] at hzz
  obtain ⟨hz0, hz1, hz2⟩ := hzz
  obtain ⟨hlen, _, hc⟩ := hr
  obtain ⟨ad', e, hcells⟩ := hc hm
  injection e with e
  subst e
  refine step_append_lies W hgd s x t ho B 5 i0 _ 1 1 ht hi hz0 hz1 hz2 rfl (by decide) v xs.length (nums .u8 xs) hs hown ad m c (nums .u8 ys) hx (by rw [nums_length]; omega) ?_ ?_ hm (by unfold maxLen; omega) (by omega) hbase _ rfl ?_
  · intro j u hu
    have hj : j < ys.length := by
      have := (List.getElem?_eq_some_iff.1 hu).1
      rwa [nums_length] at this
    rw [hcells j (by omega)]
    rw [← hu]
    simp [nums, List.getElem?_eq_getElem hj, List.getD_eq_getElem?_getD]
  · intro u hu
    obtain ⟨y, _, rfl⟩ := List.mem_map.1 hu
    rfl
  · intro g cap w' h1 h2 _ _
    exact h g cap w' (by rw [nums_append]; exact h1) h2
end
end Go.Proofs.YtkogipaaioibaaaGreatDoor
