/- impl.command: a command as it is read. (seat r2.D; printed by gen_cm3.py) -/
import Derived.Test.YtnbhledkdkchlaaDoorGa
import Derived.Deep.RegionHeld3
import Derived.WalkSpells
namespace Go.Proofs.YtnbhledkdkchlaaDoor
set_option linter.unusedVariables false
set_option linter.unusedSimpArgs false
open Go.RowKit Go.Proofs.YtnbhledkdkchlaaDoorW.PrintWords

theorem info9' : (Tryd.prog.info? 9).map (fun i => (i.zero, i.size, i.bytes)) = some (some (.string ⟨#[]⟩), 1, 16) := by kernel_rfl
theorem str_bytes (s : ByteArray) : strOfNums (bytesOf s) = s := by
  obtain ⟨⟨l⟩⟩ := s
  unfold strOfNums bytesOf
  simp [Function.comp_def]
theorem TA.conv {w : World} {b c : Nat} {s : ByteArray} (h : TA w b s) : (convert 42 9 (.slice (some ⟨b, 0, none⟩) s.size c)).run Tryd.prog w = .ok (.string s) w := by
  have h2 := string_of_reads (P := Tryd.prog) (w := w) (c := c) Tryd.underlying42 Tryd.underlying5 Tryd.underlying9 h.1
  rwa [str_bytes] at h2
theorem nil_conv (w : World) : (convert 42 9 (.slice none 0 0)).run Tryd.prog w = .ok (.string ⟨#[]⟩) w := by
  have h2 := string_of_reads (P := Tryd.prog) (w := w) (A := none) (n := 0) (c := 0) (xs := []) Tryd.underlying42 Tryd.underlying5 Tryd.underlying9 ⟨rfl, by decide, fun h => absurd h (by decide)⟩
  exact h2
def zero16 : Array Value := #[.int .u8 0, .int .u8 0, .int .u8 0, .int .u8 0, .int .u8 0, .int .u8 0, .int .u8 0, .int .u8 0, .int .u8 0, .int .u8 0, .int .u8 0, .int .u8 0, .int .u8 0, .int .u8 0, .int .u8 0, .int .u8 0]
set_option maxHeartbeats 4000000 in
set_option maxRecDepth 100000 in
theorem identity_any (s : ByteArray) (w : World) (hs : s.size = 16) :
    Calls Tryd.prog 23 #[.string s] w fun e w' => e = .returned (.agg (litC s)) ∧ Below w.heap.size w w' := by
  have hz : (w.alloc (.cells zero16 57)).heap.size = w.heap.size + 1 := by simp
  have hb1 : ((w.alloc (.cells zero16 57)).alloc (.cells zero16 57)).heap[w.heap.size + 1]? = some (.cells zero16 57 (0, 0)) := by rw [← hz]; exact heap_alloc_new _ _
  have hcp := fun ty => Lib.run_copy_row_string (P := Tryd.prog) ((w.alloc (.cells zero16 57)).alloc (.cells zero16 57)) 42 9 ty 5 (w.heap.size + 1) 0 16 16 s zero16 57 Tryd.underlying42 (by kernel_rfl) hb1 (by omega) (by rw [hs]; decide)
  have e1 : (zero16.toList.take 0 ++ Lib.byteCells s.data.toList ++ zero16.toList.drop (0 + s.size)).toArray = litC s := by rw [hs]; simp [zero16, litC]
  have hE : (goInt s.size) = .int .i64 16 := by rw [hs]; rfl
  obtain ⟨a0, a1, a2, a3, a4, a5, a6, a7, a8, a9, a10, a11, a12, a13, a14, a15, hI⟩ := litC_16 s hs
  rw [e1, hE, hI, ← hz, World.setRow_alloc_new, hz] at hcp
  rw [hI]
  simp only [zero16] at hcp
  clear hz hb1 e1 hE hI
  go_enter Tryd.func23, Tryd.ntmps23
  go_wp2_with fail
  refine bodyPost_ret (results_cell_row rfl _ _ w.heap.size 57 #[.int .u8 a0, .int .u8 a1, .int .u8 a2, .int .u8 a3, .int .u8 a4, .int .u8 a5, .int .u8 a6, .int .u8 a7, .int .u8 a8, .int .u8 a9, .int .u8 a10, .int .u8 a11, .int .u8 a12, .int .u8 a13, .int .u8 a14, .int .u8 a15] (0, 0) _ rfl (by rw [Below.heap_alloc _ _ _ (by simp)]; exact heap_alloc_new w _) Tryd.underlying57 rfl (by kernel_rfl)) rfl ?_
  exact ⟨rfl, below_alloc (below_alloc (Below.refl _ _) _) _⟩

/-- What command answers. -/
def CmR (w : World) (name : ByteArray) (ps : List ByteArray) (bs : ByteArray) (has : Bool) (e : Ending) (w' : World) : Prop :=
  ∃ v1, e = .returned (.agg #[.string name, v1, .string bs, .bool has]) ∧ Below w.heap.size w w' ∧ Kd.string.R 9 w' w.heap.size (fun q => w.heap.size ≤ q) v1 ps
/-- What the loop holds. -/
structure CL (w wr : World) (name bs : ByteArray) (has : Bool) (v1 : Value) (l : List ByteArray) : Prop where
  bel : Below w.heap.size w wr
  res : wr.heap[w.heap.size]? = some (.cells #[.string ⟨#[]⟩, .slice none 0 0, .string ⟨#[]⟩, .bool false] 30 (0, 0))
  out : wr.heap[w.heap.size + 1]? = some (.cells #[.string name, v1, .string bs, .bool has] 30 (0, 0))
  row : Kd.string.R 9 wr (w.heap.size + 2) (fun q => w.heap.size + 2 ≤ q) v1 l
theorem CL.next {w wr w3 : World} {name bs s : ByteArray} {has : Bool} {v1 v2 : Value} {l : List ByteArray} (h : CL w wr name bs has v1 l) (hr : Kd.string.R 9 w3 (w.heap.size + 2) (fun q => w.heap.size + 2 ≤ q) v2 (l ++ [s])) (hg : wr.grownBy w3 v1.ownBlock) :
    CL w (w3.setCell ⟨w.heap.size + 1, 1, none⟩ v2) name bs has v2 (l ++ [s]) := by
  have hown : ∀ q, v1.ownBlock = some q → w.heap.size + 2 ≤ q := fun q hq => Kd.R_base h.row q hq
  have hsz := h.bel.size
  have hlt := blk_lt h.out
  refine ⟨(h.bel.grown hg (by omega) (by intro q hq; have := hown q hq; omega)).setCell (by show w.heap.size ≤ w.heap.size + 1; omega) _, ?_, ?_, ?_⟩
  · exact (Below.heap_setCell w3 ⟨w.heap.size + 1, 1, none⟩ v2 _ (by show w.heap.size ≠ w.heap.size + 1; omega)).trans (blk_grown h.res hg (fun he => by have := hown _ he.symm; omega))
  · exact blk_put (blk_grown h.out hg (fun he => by have := hown _ he.symm; omega)) 1 v2 rfl
  · exact Kd.R_far hr (p := ⟨w.heap.size + 1, 1, none⟩) (fun q hq => by show q ≠ w.heap.size + 1; omega) v2
set_option maxHeartbeats 4000000 in
set_option maxRecDepth 100000 in
theorem command_none (cp nb nc cc : Nat) (Ap : Option Addr) (name : ByteArray) (ps : List ByteArray)  (w : World) (hl : ps.length ≤ 8)
    (hc : w.heap[cp]? = some (.cells #[.slice (some ⟨nb, 0, none⟩) name.size nc, .slice Ap ps.length cc, .slice none 0 0] 70 (0, 0))) (hn : TA w nb name) (hp : PsAt w Ap ps)  :
    Calls Tryd.prog 29 #[.pointer (some ⟨cp, 0, none⟩)] w fun e w' => CmR w name ps ⟨#[]⟩ false e w' := by
  have HK := Aside0.mk (fun (wi : World) (h : Below w.heap.size w wi) => show wi.cell? ⟨cp, 0, none⟩ = some (.slice (some ⟨nb, 0, none⟩) name.size nc) ∧ wi.cell? ⟨cp, 2, none⟩ = some (.slice none 0 0) ∧ (convert 42 9 (.slice (some ⟨nb, 0, none⟩) name.size nc)).run Tryd.prog wi = .ok (.string name) wi ∧ (convert 42 9 (.slice none 0 0)).run Tryd.prog wi = .ok (.string ⟨#[]⟩) wi ∧ Below w.heap.size w wi from
    ⟨blk_cell (blk_below hc h) 0, blk_cell (blk_below hc h) 2, (hn.below h).conv, nil_conv _, h⟩)
  have HC := Aside0.mk hc
  have HP := Aside0.mk hp
  have HX0 := Aside0.mk (heap_alloc_new w (.cells #[.string ⟨#[]⟩, .slice none 0 0, .string ⟨#[]⟩, .bool false] 30))
  have hne := fun (wi : World) => show (binOp .neq 42 (.slice none 0 0) (.slice none 0 0)).run Tryd.prog wi = .ok (.bool false) wi from run_neq_slice_nil_any wi 42 5 _ _ _ 0 0 Tryd.underlying42
  clear hc hp
  go_enter Tryd.func29, Tryd.ntmps29
  go_wp2_with fail
  refine wp_region_held_drew (S := fun wi : World => wi.cell? ⟨cp, 0, none⟩ = some (.slice (some ⟨nb, 0, none⟩) name.size nc) ∧ wi.cell? ⟨cp, 2, none⟩ = some (.slice none 0 0) ∧ (convert 42 9 (.slice (some ⟨nb, 0, none⟩) name.size nc)).run Tryd.prog wi = .ok (.string name) wi ∧ (convert 42 9 (.slice none 0 0)).run Tryd.prog wi = .ok (.string ⟨#[]⟩) wi ∧ Below w.heap.size w wi) (by kernel_rfl) (HK.out _ (below_drew (below_alloc (Below.refl _ _) _))) (fun hH => ?_)
  refine wpAnyH_take (i := 0) (oi := { dst := some 6, op := Go.Op.move (Go.Operand.tmp 0), type := 43, pos := "nsq.go:18", after := #[], guard := none }) (v := .pointer (some ⟨cp, 0, none⟩)) rfl (by kernel_rfl) (by kernel_rfl) (by kernel_rfl) (fun _ _ _ h => h) (Or.inl ⟨by rfl, ?_⟩) (by assumption) ?_
  · intro wi hSw
    obtain ⟨hs0, hs1, hs2, hs3, hs4⟩ := hSw
    go_simp
  try simp only [Act.put, List.setIfInBounds_toArray, List.set_cons_zero, List.set_cons_succ]
  refine wpAnyH_take (i := 1) (oi := { dst := some 7, op := Go.Op.nilCheck (Go.Operand.tmp 6), type := 0, pos := "nsq.go:18", after := #[{ on := 0, ground := Go.Ground.data }], guard := none }) (v := .pointer (some ⟨cp, 0, none⟩)) rfl (by kernel_rfl) (by kernel_rfl) (by kernel_rfl) (fun _ _ _ h => h) (Or.inl ⟨by rfl, ?_⟩) (by assumption) ?_
  · intro wi hSw
    obtain ⟨hs0, hs1, hs2, hs3, hs4⟩ := hSw
    go_simp
  try simp only [Act.put, List.setIfInBounds_toArray, List.set_cons_zero, List.set_cons_succ]
  refine wpAnyH_take (i := 2) (oi := { dst := some 8, op := Go.Op.fieldAddr 70 (Go.Operand.tmp 7) 0, type := 0, pos := "nsq.go:18", after := #[{ on := 1, ground := Go.Ground.data }], guard := none }) (v := .pointer (some ⟨cp, 0, none⟩)) rfl (by kernel_rfl) (by kernel_rfl) (by kernel_rfl) (fun _ _ _ h => h) (Or.inl ⟨by rfl, ?_⟩) (by assumption) ?_
  · intro wi hSw
    obtain ⟨hs0, hs1, hs2, hs3, hs4⟩ := hSw
    go_simp
  try simp only [Act.put, List.setIfInBounds_toArray, List.set_cons_zero, List.set_cons_succ]
  refine wpAnyH_take (i := 3) (oi := { dst := some 9, op := Go.Op.load 42 (Go.Operand.tmp 8), type := 42, pos := "nsq.go:18", after := #[{ on := 2, ground := Go.Ground.data }], guard := none }) (v := .slice (some ⟨nb, 0, none⟩) name.size nc) rfl (by kernel_rfl) (by kernel_rfl) (by kernel_rfl) (fun _ _ _ h => h) (Or.inl ⟨by rfl, ?_⟩) (by assumption) ?_
  · intro wi hSw
    obtain ⟨hs0, hs1, hs2, hs3, hs4⟩ := hSw
    go_simp
  try simp only [Act.put, List.setIfInBounds_toArray, List.set_cons_zero, List.set_cons_succ]
  refine wpAnyH_take (i := 4) (oi := { dst := some 10, op := Go.Op.convert 42 9 (Go.Operand.tmp 9), type := 9, pos := "nsq.go:18", after := #[{ on := 3, ground := Go.Ground.data }], guard := none }) (v := .string name) rfl (by kernel_rfl) (by kernel_rfl) (by kernel_rfl) (fun _ _ _ h => h) (Or.inl ⟨by rfl, ?_⟩) (by assumption) ?_
  · intro wi hSw
    obtain ⟨hs0, hs1, hs2, hs3, hs4⟩ := hSw
    go_simp
  try simp only [Act.put, List.setIfInBounds_toArray, List.set_cons_zero, List.set_cons_succ]
  refine wpAnyH_take (i := 5) (oi := { dst := some 11, op := Go.Op.move (Go.Operand.tmp 0), type := 43, pos := "nsq.go:18", after := #[], guard := none }) (v := .pointer (some ⟨cp, 0, none⟩)) rfl (by kernel_rfl) (by kernel_rfl) (by kernel_rfl) (fun _ _ _ h => h) (Or.inl ⟨by rfl, ?_⟩) (by assumption) ?_
  · intro wi hSw
    obtain ⟨hs0, hs1, hs2, hs3, hs4⟩ := hSw
    go_simp
  try simp only [Act.put, List.setIfInBounds_toArray, List.set_cons_zero, List.set_cons_succ]
  refine wpAnyH_take (i := 6) (oi := { dst := some 12, op := Go.Op.nilCheck (Go.Operand.tmp 11), type := 0, pos := "nsq.go:18", after := #[{ on := 5, ground := Go.Ground.data }], guard := none }) (v := .pointer (some ⟨cp, 0, none⟩)) rfl (by kernel_rfl) (by kernel_rfl) (by kernel_rfl) (fun _ _ _ h => h) (Or.inl ⟨by rfl, ?_⟩) (by assumption) ?_
  · intro wi hSw
    obtain ⟨hs0, hs1, hs2, hs3, hs4⟩ := hSw
    go_simp
  try simp only [Act.put, List.setIfInBounds_toArray, List.set_cons_zero, List.set_cons_succ]
  refine wpAnyH_take (i := 7) (oi := { dst := some 13, op := Go.Op.fieldAddr 70 (Go.Operand.tmp 12) 2, type := 0, pos := "nsq.go:18", after := #[{ on := 6, ground := Go.Ground.data }], guard := none }) (v := .pointer (some ⟨cp, 2, none⟩)) rfl (by kernel_rfl) (by kernel_rfl) (by kernel_rfl) (fun _ _ _ h => h) (Or.inl ⟨by rfl, ?_⟩) (by assumption) ?_
  · intro wi hSw
    obtain ⟨hs0, hs1, hs2, hs3, hs4⟩ := hSw
    go_simp
  try simp only [Act.put, List.setIfInBounds_toArray, List.set_cons_zero, List.set_cons_succ]
  refine wpAnyH_take (i := 8) (oi := { dst := some 14, op := Go.Op.load 42 (Go.Operand.tmp 13), type := 42, pos := "nsq.go:18", after := #[{ on := 7, ground := Go.Ground.data }], guard := none }) (v := .slice none 0 0) rfl (by kernel_rfl) (by kernel_rfl) (by kernel_rfl) (fun _ _ _ h => h) (Or.inl ⟨by rfl, ?_⟩) (by assumption) ?_
  · intro wi hSw
    obtain ⟨hs0, hs1, hs2, hs3, hs4⟩ := hSw
    go_simp
  try simp only [Act.put, List.setIfInBounds_toArray, List.set_cons_zero, List.set_cons_succ]
  refine wpAnyH_take (i := 9) (oi := { dst := some 15, op := Go.Op.convert 42 9 (Go.Operand.tmp 14), type := 9, pos := "nsq.go:18", after := #[{ on := 8, ground := Go.Ground.data }], guard := none }) (v := .string ⟨#[]⟩) rfl (by kernel_rfl) (by kernel_rfl) (by kernel_rfl) (fun _ _ _ h => h) (Or.inl ⟨by rfl, ?_⟩) (by assumption) ?_
  · intro wi hSw
    obtain ⟨hs0, hs1, hs2, hs3, hs4⟩ := hSw
    go_simp
  try simp only [Act.put, List.setIfInBounds_toArray, List.set_cons_zero, List.set_cons_succ]
  refine wpAnyH_take (i := 10) (oi := { dst := some 16, op := Go.Op.move (Go.Operand.tmp 0), type := 43, pos := "nsq.go:18", after := #[], guard := none }) (v := .pointer (some ⟨cp, 0, none⟩)) rfl (by kernel_rfl) (by kernel_rfl) (by kernel_rfl) (fun _ _ _ h => h) (Or.inl ⟨by rfl, ?_⟩) (by assumption) ?_
  · intro wi hSw
    obtain ⟨hs0, hs1, hs2, hs3, hs4⟩ := hSw
    go_simp
  try simp only [Act.put, List.setIfInBounds_toArray, List.set_cons_zero, List.set_cons_succ]
  refine wpAnyH_take (i := 11) (oi := { dst := some 17, op := Go.Op.nilCheck (Go.Operand.tmp 16), type := 0, pos := "nsq.go:18", after := #[{ on := 10, ground := Go.Ground.data }], guard := none }) (v := .pointer (some ⟨cp, 0, none⟩)) rfl (by kernel_rfl) (by kernel_rfl) (by kernel_rfl) (fun _ _ _ h => h) (Or.inl ⟨by rfl, ?_⟩) (by assumption) ?_
  · intro wi hSw
    obtain ⟨hs0, hs1, hs2, hs3, hs4⟩ := hSw
    go_simp
  try simp only [Act.put, List.setIfInBounds_toArray, List.set_cons_zero, List.set_cons_succ]
  refine wpAnyH_take (i := 12) (oi := { dst := some 18, op := Go.Op.fieldAddr 70 (Go.Operand.tmp 17) 2, type := 0, pos := "nsq.go:18", after := #[{ on := 11, ground := Go.Ground.data }], guard := none }) (v := .pointer (some ⟨cp, 2, none⟩)) rfl (by kernel_rfl) (by kernel_rfl) (by kernel_rfl) (fun _ _ _ h => h) (Or.inl ⟨by rfl, ?_⟩) (by assumption) ?_
  · intro wi hSw
    obtain ⟨hs0, hs1, hs2, hs3, hs4⟩ := hSw
    go_simp
  try simp only [Act.put, List.setIfInBounds_toArray, List.set_cons_zero, List.set_cons_succ]
  refine wpAnyH_take (i := 13) (oi := { dst := some 19, op := Go.Op.load 42 (Go.Operand.tmp 18), type := 42, pos := "nsq.go:18", after := #[{ on := 12, ground := Go.Ground.data }], guard := none }) (v := .slice none 0 0) rfl (by kernel_rfl) (by kernel_rfl) (by kernel_rfl) (fun _ _ _ h => h) (Or.inl ⟨by rfl, ?_⟩) (by assumption) ?_
  · intro wi hSw
    obtain ⟨hs0, hs1, hs2, hs3, hs4⟩ := hSw
    go_simp
  try simp only [Act.put, List.setIfInBounds_toArray, List.set_cons_zero, List.set_cons_succ]
  refine wpAnyH_take (i := 14) (oi := { dst := some 20, op := Go.Op.binOp Go.BinOp.neq 42 (Go.Operand.tmp 19) (Go.Operand.const (Go.Value.slice none 0 0)) 42, type := 4, pos := "nsq.go:18", after := #[{ on := 13, ground := Go.Ground.data }], guard := none }) (v := .bool false) rfl (by kernel_rfl) (by kernel_rfl) (by kernel_rfl) (fun _ _ _ h => h) (Or.inl ⟨by rfl, ?_⟩) (by assumption) ?_
  · intro wi hSw
    obtain ⟨hs0, hs1, hs2, hs3, hs4⟩ := hSw
    go_simp
  try simp only [Act.put, List.setIfInBounds_toArray, List.set_cons_zero, List.set_cons_succ]
  refine wpAnyH_take (i := 15) (oi := { dst := some 21, op := Go.Op.build 30 #[(0, Go.Operand.tmp 10), (2, Go.Operand.tmp 15), (3, Go.Operand.tmp 20)], type := 30, pos := "nsq.go:18", after := #[{ on := 4, ground := Go.Ground.data }, { on := 9, ground := Go.Ground.data }, { on := 14, ground := Go.Ground.data }], guard := none }) (v := .agg #[.string name, .slice none 0 0, .string ⟨#[]⟩, .bool false]) rfl (by kernel_rfl) (by kernel_rfl) (by kernel_rfl) (fun _ _ _ h => h) (Or.inl ⟨by rfl, ?_⟩) (by assumption) ?_
  · intro wi hSw
    obtain ⟨hs0, hs1, hs2, hs3, hs4⟩ := hSw
    go_simp
  try simp only [Act.put, List.setIfInBounds_toArray, List.set_cons_zero, List.set_cons_succ]
  refine wpAnyH_ready (rs := [16]) (by kernel_rfl) (by simp) ?_
  refine AllReadyH.cons (o := { dst := some 3, op := Go.Op.alloc 30, type := 0, pos := "nsq.go:18", after := #[], guard := none }) rfl (fun K hK => ?_) AllReadyH.nil
  go_simp
  refine hK.out _ _ (HK.out _ (below_drew (below_alloc (below_alloc (Below.refl _ _) _) _))) (fun hHn => ?_)
  clear hK K hH
  try simp only [Act.put, List.setIfInBounds_toArray, List.set_cons_zero, List.set_cons_succ]
  refine wpAnyH_ready (rs := [17]) (by kernel_rfl) (by simp) ?_
  refine AllReadyH.cons (o := { dst := none, op := Go.Op.store 30 (Go.Operand.tmp 3) (Go.Operand.tmp 21), type := 0, pos := "nsq.go:18", after := #[{ on := 16, ground := Go.Ground.data }, { on := 15, ground := Go.Ground.data }, { on := 0, ground := Go.Ground.phase }, { on := 1, ground := Go.Ground.phase }, { on := 2, ground := Go.Ground.phase }, { on := 3, ground := Go.Ground.phase }, { on := 4, ground := Go.Ground.phase }, { on := 5, ground := Go.Ground.phase }, { on := 6, ground := Go.Ground.phase }, { on := 7, ground := Go.Ground.phase }, { on := 8, ground := Go.Ground.phase }, { on := 9, ground := Go.Ground.phase }, { on := 10, ground := Go.Ground.phase }, { on := 11, ground := Go.Ground.phase }, { on := 12, ground := Go.Ground.phase }, { on := 13, ground := Go.Ground.phase }, { on := 14, ground := Go.Ground.phase }, { on := 15, ground := Go.Ground.phase }, { on := 16, ground := Go.Ground.phase }], guard := none }) rfl (fun K hK => ?_) AllReadyH.nil
  go_simp
  refine hK.out _ _ (HK.out _ (below_drew (below_alloc (below_alloc (Below.refl _ _) _) _))) (fun hHn => ?_)
  clear hK K
  try simp only [Act.put, List.setIfInBounds_toArray, List.set_cons_zero, List.set_cons_succ]
  refine wpAnyH_done (by kernel_rfl) ?_ _
  have HL0 := Aside0.mk (show CL w ((w.alloc (.cells #[.string ⟨#[]⟩, .slice none 0 0, .string ⟨#[]⟩, .bool false] 30)).alloc (.cells #[.string name, .slice none 0 0, .string ⟨#[]⟩, .bool false] 30)).drew name ⟨#[]⟩ false (.slice none 0 0) [] from
    ⟨below_drew (below_alloc (below_alloc (Below.refl _ _) _) _), (Below.heap_alloc _ _ _ (by simp)).trans HX0.out, alloc_new_at (by simp), Kd.R_nil _ _ _ _ _⟩)
  obtain ⟨e0, e1⟩ := And.intro (blk_cell (blk_below HC.out (below_drew (below_alloc (below_alloc (Below.refl w.heap.size w) (.cells #[.string ⟨#[]⟩, .slice none 0 0, .string ⟨#[]⟩, .bool false] 30)) (.cells #[.string name, .slice none 0 0, .string ⟨#[]⟩, .bool false] 30)))) 1) trivial
  clear hHn HX0 hne
  go_wp2_with fail
  go_loopg [5, 27] ps.length (fun gk v5 v27 wr => ∃ (j : Nat) (vs v1 : Value), v5 = vs ∧ v27 = .int .i64 j ∧ Aside0 (j ≤ ps.length ∧ gk = ps.length - j) ∧ Aside0 (CL w wr name ⟨#[]⟩ false v1 (ps.take j)))
  case atStart => exact ⟨0, _, _, rfl, rfl, ⟨by omega⟩, ⟨by simpa using HL0.out⟩⟩
  case round =>
    clear HL0 e0 e1
    obtain ⟨j, vs, v1, rfl, rfl, HJ, HL⟩ := hrel
    by_cases hj : j < ps.length
    · obtain ⟨x, hx⟩ : ∃ x, ps[j]? = some x := ⟨_, List.getElem?_eq_getElem hj⟩
      obtain ⟨pb, sb, sc, hA, hpb, hcx, hta⟩ := HP.out j x hx
      obtain ⟨ad, had⟩ : ∃ ad : Addr, ad = ⟨pb, 0, none⟩ := ⟨_, rfl⟩
      have hcx2 : wr.cell? (ad.add j) = some (.slice (some ⟨sb, 0, none⟩) x.size sc) := by
        rw [had, add_plain]
        exact pw_cell_below HL.out.bel hcx
      rw [← had] at hA
      subst hA
      have hcv := (hta.below HL.out.bel).conv (c := sc)
      have HX := Aside0.mk hx
      obtain ⟨A1, c1, rfl⟩ := Kd.R_slice HL.out.row
      have hc1 := blk_cell HL.out.out 1
      have hszr := blk_lt HL.out.out
      have hlen : ((ps.take j).length + 1) * 16 ≤ 140737488355328 := by rw [List.length_take]; omega
      have HBQ := Aside0.mk (fun (q : Nat) (hq : wr.heap.size ≤ q) => show w.heap.size + 2 ≤ q by omega)
      obtain ⟨lt, hlt⟩ : ∃ lt, lt = ps.take j := ⟨_, rfl⟩
      rw [← hlt] at HL hc1 hlen
      have HLT := Aside0.mk hlt
      clear hx hcx hta had hlt
      go_wp2_with (at_builtin; refine Kd.R_append (w0 := wr) Kd.string (w.heap.size + 2) rfl (.tmp 32) (.tmp 35) 22 9 _ 16 rfl Tryd.underlying22 info9' rfl (by show 0 < 1; decide) (by decide) (.slice A1 lt.length c1) lt x [.string x] (fun q => w.heap.size + 2 ≤ q) (fun _ => False) (by simp [Act.eval]) (by simp [Act.eval]) rfl (fun _ h => h.elim) HBQ.out HL.out.row (Below.refl _ _) hszr hlen ?_; intro v2 w3 hr1 hb1 hg1 hat1; obtain ⟨A3, n3, c3, rfl⟩ : ∃ A3 n3 c3, v2 = .slice A3 n3 c3 := (by obtain ⟨A, c, h⟩ := Kd.R_slice hr1; exact ⟨A, _, c, h⟩); have HN := Aside0.mk (HL.out.next hr1 hg1); have hbx3 := blk_grown HL.out.out hg1 (fun he => by have := Kd.R_base HL.out.row _ he.symm; omega); have hf3 := blk_frozen hbx3 1; have hc3 := blk_cell hbx3 1; clear hr1 hb1 hg1 hat1 hbx3)
      go_roundg (ps.length - (j + 1))
      case measure => have := HJ.out.2; omega
      case rel =>
        exact ⟨j + 1, _, _, rfl, by go_num, ⟨by omega⟩, ⟨by rw [List.take_add_one, HX.out, ← HLT.out]; exact HN.out⟩⟩
    · have hje : j = ps.length := by have := HJ.out.1; omega
      subst hje
      rw [List.take_length] at HL
      obtain ⟨A1, c1, rfl⟩ := Kd.R_slice HL.out.row
      obtain ⟨q0, q1, q2, q3⟩ := And.intro (blk_cell HL.out.out 0) (And.intro (blk_cell HL.out.out 1) (And.intro (blk_cell HL.out.out 2) (blk_cell HL.out.out 3)))
      obtain ⟨r0, r1, r2, r3⟩ := And.intro (blk_cell HL.out.res 0) (And.intro (blk_cell HL.out.res 1) (And.intro (blk_cell HL.out.res 2) (blk_cell HL.out.res 3)))
      have s0 := blk_frozen HL.out.res 0
      have s1 := blk_frozen HL.out.res 1
      have s2 := blk_frozen HL.out.res 2
      have s3 := blk_frozen HL.out.res 3
      have HPUT := Aside0.mk (blk_put (blk_put (blk_put (blk_put (cs' := #[.string name, .slice none 0 0, .string ⟨#[]⟩, .bool false]) HL.out.res 0 (.string name) rfl) (cs' := #[.string name, .slice A1 ps.length c1, .string ⟨#[]⟩, .bool false]) 1 (.slice A1 ps.length c1) rfl) (cs' := #[.string name, .slice A1 ps.length c1, .string ⟨#[]⟩, .bool false]) 2 (.string ⟨#[]⟩) rfl) (cs' := #[.string name, .slice A1 ps.length c1, .string ⟨#[]⟩, .bool false]) 3 (.bool false) rfl)
      go_wp2_with fail
      refine bodyPost_ret (results_cell_row rfl _ _ w.heap.size 30 #[.string name, .slice A1 ps.length c1, .string ⟨#[]⟩, .bool false] (0, 0) _ rfl HPUT.out Tryd.underlying30 rfl (by kernel_rfl)) rfl ?_
      refine ⟨_, rfl, below_set (below_set (below_set (below_set HL.out.bel (Nat.le_refl _)) (Nat.le_refl _)) (Nat.le_refl _)) (Nat.le_refl _), ?_⟩
      have hq : ∀ q, w.heap.size + 2 ≤ q → q ≠ w.heap.size := fun q h => by omega
      exact Kd.R_lower (Kd.R_mono (Kd.R_far (Kd.R_far (Kd.R_far (Kd.R_far HL.out.row (p := ⟨w.heap.size, 0, none⟩) hq _) (p := ⟨w.heap.size, 1, none⟩) hq _) (p := ⟨w.heap.size, 2, none⟩) hq _) (p := ⟨w.heap.size, 3, none⟩) hq _) (fun q (h : w.heap.size + 2 ≤ q) => by show w.heap.size ≤ q; omega)) (by omega)
set_option maxHeartbeats 4000000 in
set_option maxRecDepth 100000 in
theorem command_some (cp nb nc cc : Nat) (Ap : Option Addr) (name : ByteArray) (ps : List ByteArray) (bb bc : Nat) (bs : ByteArray) (w : World) (hl : ps.length ≤ 8)
    (hc : w.heap[cp]? = some (.cells #[.slice (some ⟨nb, 0, none⟩) name.size nc, .slice Ap ps.length cc, .slice (some ⟨bb, 0, none⟩) bs.size bc] 70 (0, 0))) (hn : TA w nb name) (hp : PsAt w Ap ps) (hb : TA w bb bs) :
    Calls Tryd.prog 29 #[.pointer (some ⟨cp, 0, none⟩)] w fun e w' => CmR w name ps bs true e w' := by
  have HK := Aside0.mk (fun (wi : World) (h : Below w.heap.size w wi) => show wi.cell? ⟨cp, 0, none⟩ = some (.slice (some ⟨nb, 0, none⟩) name.size nc) ∧ wi.cell? ⟨cp, 2, none⟩ = some (.slice (some ⟨bb, 0, none⟩) bs.size bc) ∧ (convert 42 9 (.slice (some ⟨nb, 0, none⟩) name.size nc)).run Tryd.prog wi = .ok (.string name) wi ∧ (convert 42 9 (.slice (some ⟨bb, 0, none⟩) bs.size bc)).run Tryd.prog wi = .ok (.string bs) wi ∧ Below w.heap.size w wi from
    ⟨blk_cell (blk_below hc h) 0, blk_cell (blk_below hc h) 2, (hn.below h).conv, (hb.below h).conv, h⟩)
  have HC := Aside0.mk hc
  have HP := Aside0.mk hp
  have HX0 := Aside0.mk (heap_alloc_new w (.cells #[.string ⟨#[]⟩, .slice none 0 0, .string ⟨#[]⟩, .bool false] 30))
  have hne := fun (wi : World) => show (binOp .neq 42 (.slice (some ⟨bb, 0, none⟩) bs.size bc) (.slice none 0 0)).run Tryd.prog wi = .ok (.bool true) wi from run_neq_slice_nil_any wi 42 5 _ _ _ 0 0 Tryd.underlying42
  clear hc hp
  go_enter Tryd.func29, Tryd.ntmps29
  go_wp2_with fail
  refine wp_region_held_drew (S := fun wi : World => wi.cell? ⟨cp, 0, none⟩ = some (.slice (some ⟨nb, 0, none⟩) name.size nc) ∧ wi.cell? ⟨cp, 2, none⟩ = some (.slice (some ⟨bb, 0, none⟩) bs.size bc) ∧ (convert 42 9 (.slice (some ⟨nb, 0, none⟩) name.size nc)).run Tryd.prog wi = .ok (.string name) wi ∧ (convert 42 9 (.slice (some ⟨bb, 0, none⟩) bs.size bc)).run Tryd.prog wi = .ok (.string bs) wi ∧ Below w.heap.size w wi) (by kernel_rfl) (HK.out _ (below_drew (below_alloc (Below.refl _ _) _))) (fun hH => ?_)
  refine wpAnyH_take (i := 0) (oi := { dst := some 6, op := Go.Op.move (Go.Operand.tmp 0), type := 43, pos := "nsq.go:18", after := #[], guard := none }) (v := .pointer (some ⟨cp, 0, none⟩)) rfl (by kernel_rfl) (by kernel_rfl) (by kernel_rfl) (fun _ _ _ h => h) (Or.inl ⟨by rfl, ?_⟩) (by assumption) ?_
  · intro wi hSw
    obtain ⟨hs0, hs1, hs2, hs3, hs4⟩ := hSw
    go_simp
  try simp only [Act.put, List.setIfInBounds_toArray, List.set_cons_zero, List.set_cons_succ]
  refine wpAnyH_take (i := 1) (oi := { dst := some 7, op := Go.Op.nilCheck (Go.Operand.tmp 6), type := 0, pos := "nsq.go:18", after := #[{ on := 0, ground := Go.Ground.data }], guard := none }) (v := .pointer (some ⟨cp, 0, none⟩)) rfl (by kernel_rfl) (by kernel_rfl) (by kernel_rfl) (fun _ _ _ h => h) (Or.inl ⟨by rfl, ?_⟩) (by assumption) ?_
  · intro wi hSw
    obtain ⟨hs0, hs1, hs2, hs3, hs4⟩ := hSw
    go_simp
  try simp only [Act.put, List.setIfInBounds_toArray, List.set_cons_zero, List.set_cons_succ]
  refine wpAnyH_take (i := 2) (oi := { dst := some 8, op := Go.Op.fieldAddr 70 (Go.Operand.tmp 7) 0, type := 0, pos := "nsq.go:18", after := #[{ on := 1, ground := Go.Ground.data }], guard := none }) (v := .pointer (some ⟨cp, 0, none⟩)) rfl (by kernel_rfl) (by kernel_rfl) (by kernel_rfl) (fun _ _ _ h => h) (Or.inl ⟨by rfl, ?_⟩) (by assumption) ?_
  · intro wi hSw
    obtain ⟨hs0, hs1, hs2, hs3, hs4⟩ := hSw
    go_simp
  try simp only [Act.put, List.setIfInBounds_toArray, List.set_cons_zero, List.set_cons_succ]
  refine wpAnyH_take (i := 3) (oi := { dst := some 9, op := Go.Op.load 42 (Go.Operand.tmp 8), type := 42, pos := "nsq.go:18", after := #[{ on := 2, ground := Go.Ground.data }], guard := none }) (v := .slice (some ⟨nb, 0, none⟩) name.size nc) rfl (by kernel_rfl) (by kernel_rfl) (by kernel_rfl) (fun _ _ _ h => h) (Or.inl ⟨by rfl, ?_⟩) (by assumption) ?_
  · intro wi hSw
    obtain ⟨hs0, hs1, hs2, hs3, hs4⟩ := hSw
    go_simp
  try simp only [Act.put, List.setIfInBounds_toArray, List.set_cons_zero, List.set_cons_succ]
  refine wpAnyH_take (i := 4) (oi := { dst := some 10, op := Go.Op.convert 42 9 (Go.Operand.tmp 9), type := 9, pos := "nsq.go:18", after := #[{ on := 3, ground := Go.Ground.data }], guard := none }) (v := .string name) rfl (by kernel_rfl) (by kernel_rfl) (by kernel_rfl) (fun _ _ _ h => h) (Or.inl ⟨by rfl, ?_⟩) (by assumption) ?_
  · intro wi hSw
    obtain ⟨hs0, hs1, hs2, hs3, hs4⟩ := hSw
    go_simp
  try simp only [Act.put, List.setIfInBounds_toArray, List.set_cons_zero, List.set_cons_succ]
  refine wpAnyH_take (i := 5) (oi := { dst := some 11, op := Go.Op.move (Go.Operand.tmp 0), type := 43, pos := "nsq.go:18", after := #[], guard := none }) (v := .pointer (some ⟨cp, 0, none⟩)) rfl (by kernel_rfl) (by kernel_rfl) (by kernel_rfl) (fun _ _ _ h => h) (Or.inl ⟨by rfl, ?_⟩) (by assumption) ?_
  · intro wi hSw
    obtain ⟨hs0, hs1, hs2, hs3, hs4⟩ := hSw
    go_simp
  try simp only [Act.put, List.setIfInBounds_toArray, List.set_cons_zero, List.set_cons_succ]
  refine wpAnyH_take (i := 6) (oi := { dst := some 12, op := Go.Op.nilCheck (Go.Operand.tmp 11), type := 0, pos := "nsq.go:18", after := #[{ on := 5, ground := Go.Ground.data }], guard := none }) (v := .pointer (some ⟨cp, 0, none⟩)) rfl (by kernel_rfl) (by kernel_rfl) (by kernel_rfl) (fun _ _ _ h => h) (Or.inl ⟨by rfl, ?_⟩) (by assumption) ?_
  · intro wi hSw
    obtain ⟨hs0, hs1, hs2, hs3, hs4⟩ := hSw
    go_simp
  try simp only [Act.put, List.setIfInBounds_toArray, List.set_cons_zero, List.set_cons_succ]
  refine wpAnyH_take (i := 7) (oi := { dst := some 13, op := Go.Op.fieldAddr 70 (Go.Operand.tmp 12) 2, type := 0, pos := "nsq.go:18", after := #[{ on := 6, ground := Go.Ground.data }], guard := none }) (v := .pointer (some ⟨cp, 2, none⟩)) rfl (by kernel_rfl) (by kernel_rfl) (by kernel_rfl) (fun _ _ _ h => h) (Or.inl ⟨by rfl, ?_⟩) (by assumption) ?_
  · intro wi hSw
    obtain ⟨hs0, hs1, hs2, hs3, hs4⟩ := hSw
    go_simp
  try simp only [Act.put, List.setIfInBounds_toArray, List.set_cons_zero, List.set_cons_succ]
  refine wpAnyH_take (i := 8) (oi := { dst := some 14, op := Go.Op.load 42 (Go.Operand.tmp 13), type := 42, pos := "nsq.go:18", after := #[{ on := 7, ground := Go.Ground.data }], guard := none }) (v := .slice (some ⟨bb, 0, none⟩) bs.size bc) rfl (by kernel_rfl) (by kernel_rfl) (by kernel_rfl) (fun _ _ _ h => h) (Or.inl ⟨by rfl, ?_⟩) (by assumption) ?_
  · intro wi hSw
    obtain ⟨hs0, hs1, hs2, hs3, hs4⟩ := hSw
    go_simp
  try simp only [Act.put, List.setIfInBounds_toArray, List.set_cons_zero, List.set_cons_succ]
  refine wpAnyH_take (i := 9) (oi := { dst := some 15, op := Go.Op.convert 42 9 (Go.Operand.tmp 14), type := 9, pos := "nsq.go:18", after := #[{ on := 8, ground := Go.Ground.data }], guard := none }) (v := .string bs) rfl (by kernel_rfl) (by kernel_rfl) (by kernel_rfl) (fun _ _ _ h => h) (Or.inl ⟨by rfl, ?_⟩) (by assumption) ?_
  · intro wi hSw
    obtain ⟨hs0, hs1, hs2, hs3, hs4⟩ := hSw
    go_simp
  try simp only [Act.put, List.setIfInBounds_toArray, List.set_cons_zero, List.set_cons_succ]
  refine wpAnyH_take (i := 10) (oi := { dst := some 16, op := Go.Op.move (Go.Operand.tmp 0), type := 43, pos := "nsq.go:18", after := #[], guard := none }) (v := .pointer (some ⟨cp, 0, none⟩)) rfl (by kernel_rfl) (by kernel_rfl) (by kernel_rfl) (fun _ _ _ h => h) (Or.inl ⟨by rfl, ?_⟩) (by assumption) ?_
  · intro wi hSw
    obtain ⟨hs0, hs1, hs2, hs3, hs4⟩ := hSw
    go_simp
  try simp only [Act.put, List.setIfInBounds_toArray, List.set_cons_zero, List.set_cons_succ]
  refine wpAnyH_take (i := 11) (oi := { dst := some 17, op := Go.Op.nilCheck (Go.Operand.tmp 16), type := 0, pos := "nsq.go:18", after := #[{ on := 10, ground := Go.Ground.data }], guard := none }) (v := .pointer (some ⟨cp, 0, none⟩)) rfl (by kernel_rfl) (by kernel_rfl) (by kernel_rfl) (fun _ _ _ h => h) (Or.inl ⟨by rfl, ?_⟩) (by assumption) ?_
  · intro wi hSw
    obtain ⟨hs0, hs1, hs2, hs3, hs4⟩ := hSw
    go_simp
  try simp only [Act.put, List.setIfInBounds_toArray, List.set_cons_zero, List.set_cons_succ]
  refine wpAnyH_take (i := 12) (oi := { dst := some 18, op := Go.Op.fieldAddr 70 (Go.Operand.tmp 17) 2, type := 0, pos := "nsq.go:18", after := #[{ on := 11, ground := Go.Ground.data }], guard := none }) (v := .pointer (some ⟨cp, 2, none⟩)) rfl (by kernel_rfl) (by kernel_rfl) (by kernel_rfl) (fun _ _ _ h => h) (Or.inl ⟨by rfl, ?_⟩) (by assumption) ?_
  · intro wi hSw
    obtain ⟨hs0, hs1, hs2, hs3, hs4⟩ := hSw
    go_simp
  try simp only [Act.put, List.setIfInBounds_toArray, List.set_cons_zero, List.set_cons_succ]
  refine wpAnyH_take (i := 13) (oi := { dst := some 19, op := Go.Op.load 42 (Go.Operand.tmp 18), type := 42, pos := "nsq.go:18", after := #[{ on := 12, ground := Go.Ground.data }], guard := none }) (v := .slice (some ⟨bb, 0, none⟩) bs.size bc) rfl (by kernel_rfl) (by kernel_rfl) (by kernel_rfl) (fun _ _ _ h => h) (Or.inl ⟨by rfl, ?_⟩) (by assumption) ?_
  · intro wi hSw
    obtain ⟨hs0, hs1, hs2, hs3, hs4⟩ := hSw
    go_simp
  try simp only [Act.put, List.setIfInBounds_toArray, List.set_cons_zero, List.set_cons_succ]
  refine wpAnyH_take (i := 14) (oi := { dst := some 20, op := Go.Op.binOp Go.BinOp.neq 42 (Go.Operand.tmp 19) (Go.Operand.const (Go.Value.slice none 0 0)) 42, type := 4, pos := "nsq.go:18", after := #[{ on := 13, ground := Go.Ground.data }], guard := none }) (v := .bool true) rfl (by kernel_rfl) (by kernel_rfl) (by kernel_rfl) (fun _ _ _ h => h) (Or.inl ⟨by rfl, ?_⟩) (by assumption) ?_
  · intro wi hSw
    obtain ⟨hs0, hs1, hs2, hs3, hs4⟩ := hSw
    go_simp
  try simp only [Act.put, List.setIfInBounds_toArray, List.set_cons_zero, List.set_cons_succ]
  refine wpAnyH_take (i := 15) (oi := { dst := some 21, op := Go.Op.build 30 #[(0, Go.Operand.tmp 10), (2, Go.Operand.tmp 15), (3, Go.Operand.tmp 20)], type := 30, pos := "nsq.go:18", after := #[{ on := 4, ground := Go.Ground.data }, { on := 9, ground := Go.Ground.data }, { on := 14, ground := Go.Ground.data }], guard := none }) (v := .agg #[.string name, .slice none 0 0, .string bs, .bool true]) rfl (by kernel_rfl) (by kernel_rfl) (by kernel_rfl) (fun _ _ _ h => h) (Or.inl ⟨by rfl, ?_⟩) (by assumption) ?_
  · intro wi hSw
    obtain ⟨hs0, hs1, hs2, hs3, hs4⟩ := hSw
    go_simp
  try simp only [Act.put, List.setIfInBounds_toArray, List.set_cons_zero, List.set_cons_succ]
  refine wpAnyH_ready (rs := [16]) (by kernel_rfl) (by simp) ?_
  refine AllReadyH.cons (o := { dst := some 3, op := Go.Op.alloc 30, type := 0, pos := "nsq.go:18", after := #[], guard := none }) rfl (fun K hK => ?_) AllReadyH.nil
  go_simp
  refine hK.out _ _ (HK.out _ (below_drew (below_alloc (below_alloc (Below.refl _ _) _) _))) (fun hHn => ?_)
  clear hK K hH
  try simp only [Act.put, List.setIfInBounds_toArray, List.set_cons_zero, List.set_cons_succ]
  refine wpAnyH_ready (rs := [17]) (by kernel_rfl) (by simp) ?_
  refine AllReadyH.cons (o := { dst := none, op := Go.Op.store 30 (Go.Operand.tmp 3) (Go.Operand.tmp 21), type := 0, pos := "nsq.go:18", after := #[{ on := 16, ground := Go.Ground.data }, { on := 15, ground := Go.Ground.data }, { on := 0, ground := Go.Ground.phase }, { on := 1, ground := Go.Ground.phase }, { on := 2, ground := Go.Ground.phase }, { on := 3, ground := Go.Ground.phase }, { on := 4, ground := Go.Ground.phase }, { on := 5, ground := Go.Ground.phase }, { on := 6, ground := Go.Ground.phase }, { on := 7, ground := Go.Ground.phase }, { on := 8, ground := Go.Ground.phase }, { on := 9, ground := Go.Ground.phase }, { on := 10, ground := Go.Ground.phase }, { on := 11, ground := Go.Ground.phase }, { on := 12, ground := Go.Ground.phase }, { on := 13, ground := Go.Ground.phase }, { on := 14, ground := Go.Ground.phase }, { on := 15, ground := Go.Ground.phase }, { on := 16, ground := Go.Ground.phase }], guard := none }) rfl (fun K hK => ?_) AllReadyH.nil
  go_simp
  refine hK.out _ _ (HK.out _ (below_drew (below_alloc (below_alloc (Below.refl _ _) _) _))) (fun hHn => ?_)
  clear hK K
  try simp only [Act.put, List.setIfInBounds_toArray, List.set_cons_zero, List.set_cons_succ]
  refine wpAnyH_done (by kernel_rfl) ?_ _
  have HL0 := Aside0.mk (show CL w ((w.alloc (.cells #[.string ⟨#[]⟩, .slice none 0 0, .string ⟨#[]⟩, .bool false] 30)).alloc (.cells #[.string name, .slice none 0 0, .string bs, .bool true] 30)).drew name bs true (.slice none 0 0) [] from
    ⟨below_drew (below_alloc (below_alloc (Below.refl _ _) _) _), (Below.heap_alloc _ _ _ (by simp)).trans HX0.out, alloc_new_at (by simp), Kd.R_nil _ _ _ _ _⟩)
  obtain ⟨e0, e1⟩ := And.intro (blk_cell (blk_below HC.out (below_drew (below_alloc (below_alloc (Below.refl w.heap.size w) (.cells #[.string ⟨#[]⟩, .slice none 0 0, .string ⟨#[]⟩, .bool false] 30)) (.cells #[.string name, .slice none 0 0, .string bs, .bool true] 30)))) 1) trivial
  clear hHn HX0 hne
  go_wp2_with fail
  go_loopg [5, 27] ps.length (fun gk v5 v27 wr => ∃ (j : Nat) (vs v1 : Value), v5 = vs ∧ v27 = .int .i64 j ∧ Aside0 (j ≤ ps.length ∧ gk = ps.length - j) ∧ Aside0 (CL w wr name bs true v1 (ps.take j)))
  case atStart => exact ⟨0, _, _, rfl, rfl, ⟨by omega⟩, ⟨by simpa using HL0.out⟩⟩
  case round =>
    clear HL0 e0 e1
    obtain ⟨j, vs, v1, rfl, rfl, HJ, HL⟩ := hrel
    by_cases hj : j < ps.length
    · obtain ⟨x, hx⟩ : ∃ x, ps[j]? = some x := ⟨_, List.getElem?_eq_getElem hj⟩
      obtain ⟨pb, sb, sc, hA, hpb, hcx, hta⟩ := HP.out j x hx
      obtain ⟨ad, had⟩ : ∃ ad : Addr, ad = ⟨pb, 0, none⟩ := ⟨_, rfl⟩
      have hcx2 : wr.cell? (ad.add j) = some (.slice (some ⟨sb, 0, none⟩) x.size sc) := by
        rw [had, add_plain]
        exact pw_cell_below HL.out.bel hcx
      rw [← had] at hA
      subst hA
      have hcv := (hta.below HL.out.bel).conv (c := sc)
      have HX := Aside0.mk hx
      obtain ⟨A1, c1, rfl⟩ := Kd.R_slice HL.out.row
      have hc1 := blk_cell HL.out.out 1
      have hszr := blk_lt HL.out.out
      have hlen : ((ps.take j).length + 1) * 16 ≤ 140737488355328 := by rw [List.length_take]; omega
      have HBQ := Aside0.mk (fun (q : Nat) (hq : wr.heap.size ≤ q) => show w.heap.size + 2 ≤ q by omega)
      obtain ⟨lt, hlt⟩ : ∃ lt, lt = ps.take j := ⟨_, rfl⟩
      rw [← hlt] at HL hc1 hlen
      have HLT := Aside0.mk hlt
      clear hx hcx hta had hlt
      go_wp2_with (at_builtin; refine Kd.R_append (w0 := wr) Kd.string (w.heap.size + 2) rfl (.tmp 32) (.tmp 35) 22 9 _ 16 rfl Tryd.underlying22 info9' rfl (by show 0 < 1; decide) (by decide) (.slice A1 lt.length c1) lt x [.string x] (fun q => w.heap.size + 2 ≤ q) (fun _ => False) (by simp [Act.eval]) (by simp [Act.eval]) rfl (fun _ h => h.elim) HBQ.out HL.out.row (Below.refl _ _) hszr hlen ?_; intro v2 w3 hr1 hb1 hg1 hat1; obtain ⟨A3, n3, c3, rfl⟩ : ∃ A3 n3 c3, v2 = .slice A3 n3 c3 := (by obtain ⟨A, c, h⟩ := Kd.R_slice hr1; exact ⟨A, _, c, h⟩); have HN := Aside0.mk (HL.out.next hr1 hg1); have hbx3 := blk_grown HL.out.out hg1 (fun he => by have := Kd.R_base HL.out.row _ he.symm; omega); have hf3 := blk_frozen hbx3 1; have hc3 := blk_cell hbx3 1; clear hr1 hb1 hg1 hat1 hbx3)
      go_roundg (ps.length - (j + 1))
      case measure => have := HJ.out.2; omega
      case rel =>
        exact ⟨j + 1, _, _, rfl, by go_num, ⟨by omega⟩, ⟨by rw [List.take_add_one, HX.out, ← HLT.out]; exact HN.out⟩⟩
    · have hje : j = ps.length := by have := HJ.out.1; omega
      subst hje
      rw [List.take_length] at HL
      obtain ⟨A1, c1, rfl⟩ := Kd.R_slice HL.out.row
      obtain ⟨q0, q1, q2, q3⟩ := And.intro (blk_cell HL.out.out 0) (And.intro (blk_cell HL.out.out 1) (And.intro (blk_cell HL.out.out 2) (blk_cell HL.out.out 3)))
      obtain ⟨r0, r1, r2, r3⟩ := And.intro (blk_cell HL.out.res 0) (And.intro (blk_cell HL.out.res 1) (And.intro (blk_cell HL.out.res 2) (blk_cell HL.out.res 3)))
      have s0 := blk_frozen HL.out.res 0
      have s1 := blk_frozen HL.out.res 1
      have s2 := blk_frozen HL.out.res 2
      have s3 := blk_frozen HL.out.res 3
      have HPUT := Aside0.mk (blk_put (blk_put (blk_put (blk_put (cs' := #[.string name, .slice none 0 0, .string ⟨#[]⟩, .bool false]) HL.out.res 0 (.string name) rfl) (cs' := #[.string name, .slice A1 ps.length c1, .string ⟨#[]⟩, .bool false]) 1 (.slice A1 ps.length c1) rfl) (cs' := #[.string name, .slice A1 ps.length c1, .string bs, .bool false]) 2 (.string bs) rfl) (cs' := #[.string name, .slice A1 ps.length c1, .string bs, .bool true]) 3 (.bool true) rfl)
      go_wp2_with fail
      refine bodyPost_ret (results_cell_row rfl _ _ w.heap.size 30 #[.string name, .slice A1 ps.length c1, .string bs, .bool true] (0, 0) _ rfl HPUT.out Tryd.underlying30 rfl (by kernel_rfl)) rfl ?_
      refine ⟨_, rfl, below_set (below_set (below_set (below_set HL.out.bel (Nat.le_refl _)) (Nat.le_refl _)) (Nat.le_refl _)) (Nat.le_refl _), ?_⟩
      have hq : ∀ q, w.heap.size + 2 ≤ q → q ≠ w.heap.size := fun q h => by omega
      exact Kd.R_lower (Kd.R_mono (Kd.R_far (Kd.R_far (Kd.R_far (Kd.R_far HL.out.row (p := ⟨w.heap.size, 0, none⟩) hq _) (p := ⟨w.heap.size, 1, none⟩) hq _) (p := ⟨w.heap.size, 2, none⟩) hq _) (p := ⟨w.heap.size, 3, none⟩) hq _) (fun q (h : w.heap.size + 2 ≤ q) => by show w.heap.size ≤ q; omega)) (by omega)
end Go.Proofs.YtnbhledkdkchlaaDoor
