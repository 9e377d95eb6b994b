/- Maps of one entry and of none: made, written, ranged over. -/
import Derived.Test.YtjnookhdiolhgaaPackA
import Derived.Maps.Own
import Derived.Maps.RangeRun
namespace Go.Proofs.Ytjnookhdiolhgaa
set_option linter.unusedVariables false
set_option linter.unusedSimpArgs false
open Go.RowKit Go.Proofs.YtjnookhdiolhgaaW.PrintWords
open Go.ChangeMaps (setBlock)
open PAll (info5 S26 k26)

/-- The block of a map of one entry. -/
def oneMap (key : ByteArray) (v : Value) : Obj := .map #[{ key := .string key, val := v, born := 0 }] 1
theorem run_mapUpdate_new {P : Program} (w : World) (t k e : TypeId) (b : Nat) (key : ByteArray) (v : Value) (ht : P.underlying t = some (.map k e)) (hk : P.underlying k = some .string) (hb : w.heap[b]? = some (.map #[] 0)) :
    (Instr.mapUpdate t (.map (some b)) (.string key) v).run P w = .ok () (setBlock w b (oneMap key v)) := by
  have hc := MapKept.run_checkKey (P := P) (w := w) (kt := k) (d := .string) (k := .string key) hk trivial false 9999
  simp [Instr.mapUpdate, run_underlying ht, MapKept.run_getObj_map hb, hc, Instr.findKey, run_underlying hk, Instr.findNow, Instr.findAsking, MapKept.run_setObj_map _ hb, setBlock, oneMap]
theorem setBlock_grown (w : World) (b : Nat) (o : Obj) : w.grownBy (setBlock w b o) (some b) := by
  refine ⟨rfl, rfl, rfl, by simp [setBlock], fun i hi hn => ?_⟩
  show (w.heap.setIfInBounds b o)[i]? = _
  rw [Array.getElem?_setIfInBounds, if_neg (by intro he; exact hn (by rw [he]))]
theorem setBlock_at {w : World} {b : Nat} {o1 : Obj} (o : Obj) (hb : w.heap[b]? = some o1) : (setBlock w b o).heap[b]? = some o := by
  show (w.heap.setIfInBounds b o)[b]? = _
  have hlt : b < w.heap.size := by
    rcases Nat.lt_or_ge b w.heap.size with h | h
    · exact h
    · simp [Array.getElem?_eq_none h] at hb
  rw [Array.getElem?_setIfInBounds, if_pos rfl, if_pos hlt]
theorem wpList_mapUpdate_new {P : Program} (w : World) {ops : Array Oper} {rest : List Oper} {o : Oper} {a : Act} {Q : Exit → Act → World → Prop}
    (hg : o.guard = none) (m x v : Operand) (t : TypeId) (hop : o.op = Op.mapUpdate t m x v) (k e : TypeId) (ht : P.underlying t = some (.map k e)) (hk : P.underlying k = some .string)
    (b : Nat) (hm : a.eval m = .map (some b)) (hb : w.heap[b]? = some (.map #[] 0)) (key : ByteArray) (val : Value) (hx : a.eval x = .string key) (hv : a.eval v = val)
    (hK : ∀ w', w'.heap[b]? = some (oneMap key val) → w.grownBy w' (some b) → wpList P ops Q rest (a.put o.dst undef) w') :
    wpList P ops Q (o :: rest) a w := by
  refine wpList_plain hg fun K' hK' => ?_
  have hrun := run_mapUpdate_new w t k e b key val ht hk hb
  unfold Oper.wp
  simp [execOp, hop, hm, hx, hv, hrun, Result.andThen]
  exact hK' _ _ (hK _ (setBlock_at _ hb) (setBlock_grown w b _))

theorem setBlock_alloc (w : World) (o o' : Obj) : setBlock (w.alloc o) w.heap.size o' = w.alloc o' := by
  have hp : ∀ (h : Array Obj) (x y : Obj), (h.push x).setIfInBounds h.size y = h.push y := by
    intro h x y
    apply Array.toList_inj.1
    simp
  show ({ w.alloc o with heap := (w.heap.push o).setIfInBounds w.heap.size o' } : World) = _
  rw [hp]
  rfl
theorem run_next_one {P : Program} (w : World) (ty : TypeId) (r bm : Nat) (key : ByteArray) (v : Value) (hr : w.heap[r]? = some (.mapIter (some bm) 1 #[] 1)) (hb : w.heap[bm]? = some (oneMap key v)) :
    (Instr.next (.pointer (some ⟨r, 0, none⟩)) false ty).run P w = .ok (.tuple #[.bool true, .string key, v]) (setBlock w r (.mapIter (some bm) 1 #[0] 1)) := by
  unfold oneMap at hb
  simp [Instr.next, getObj, Sem.run_bind, Sem.run, hr, hb, Result.andThen, choose, Question.forced, run_setObj_at hr]
theorem run_next_over {P : Program} (w : World) (ty : TypeId) (r bm : Nat) (key : ByteArray) (v : Value) (hr : w.heap[r]? = some (.mapIter (some bm) 1 #[0] 1)) (hb : w.heap[bm]? = some (oneMap key v)) :
    (Instr.next (.pointer (some ⟨r, 0, none⟩)) false ty).run P w = .ok (.tuple #[.bool false]) w := by
  unfold oneMap at hb
  simp [Instr.next, getObj, Sem.run_bind, Sem.run, hr, hb, Result.andThen, choose, Question.forced]
theorem run_next_none {P : Program} (w : World) (ty : TypeId) (r bm : Nat) (hr : w.heap[r]? = some (.mapIter (some bm) 0 #[] 0)) (hb : w.heap[bm]? = some (.map #[] 0)) :
    (Instr.next (.pointer (some ⟨r, 0, none⟩)) false ty).run P w = .ok (.tuple #[.bool false]) w := by
  simp [Instr.next, getObj, Sem.run_bind, Sem.run, hr, hb, Result.andThen, choose, Question.forced]
theorem run_entry_one {P : Program} (w : World) (r bm : Nat) (key : ByteArray) (v : Value) (hr : w.heap[r]? = some (.mapIter (some bm) 1 #[0] 1)) (hb : w.heap[bm]? = some (oneMap key v)) :
    (Instr.entry (.pointer (some ⟨r, 0, none⟩))).run P w = .ok (.tuple #[.string key, v]) w := by
  unfold oneMap at hb
  simp [Instr.entry, getObj, Sem.run_bind, Sem.run, hr, hb, Result.andThen]
end Go.Proofs.Ytjnookhdiolhgaa
