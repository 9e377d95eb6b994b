/- The packer's methods for empty maps; impl.PackMap by its ways. -/
import Derived.Test.YtjnookhdiolhgaaPm
namespace Go.Proofs.Ytjnookhdiolhgaa
set_option linter.unusedVariables false
set_option linter.unusedSimpArgs false
open Go.RowKit Go.Proofs.YtjnookhdiolhgaaW.PrintWords
open Go.ChangeMaps (setBlock)
open PAll (info5 S26 k26)

set_option maxHeartbeats 4000000 in
set_option maxRecDepth 100000 in
theorem pm0_0 {B bp : Nat} {xs : List Int} (m : Nat) (w : World) (hm : w.heap[m]? = some (.map #[] 0)) (h : PB w B bp xs) (hB : B ≤ w.heap.size) (hl : xs.length ≤ 1000000) :
    Calls Try.prog 53 #[.pointer (some ⟨bp, 0, none⟩), .map (some m)] w fun e w' => e = .returned (.tuple #[]) ∧ PB w' B bp (xs ++ encHead 160 216 0) ∧ Fr B bp w w' := by
  have HH := Aside0.mk (pk_head 0 160 216 w h hB (by omega) (by omega) (by omega) (by omega) (by omega))
  have hlen := fun ty => run_len_map (P := Try.prog) (w := w) 100 ty m _ 0 (by kernel_rfl) hm
  have HM := Aside0.mk hm
  have HPB := Aside0.mk h.cells
  clear hm h hB hl
  go_enter Try.func53, Try.ntmps53
  go_wp2_with fail
  refine (HH.out).mono ?_
  rintro e w1 ⟨rfl, hp, hf⟩
  have hm1 := fr_map hf (by intro cs t fr he; cases he) HM.out HPB.out
  have HP1 := Aside0.mk hp
  have HF1 := Aside0.mk hf
  have hrg := run_range_map (P := Try.prog) w1 100 9 3 m #[] 0 Try.underlying100 hm1
  have hit := heap_alloc_new w1 (.mapIter (some m) 0 #[] 0)
  have hmlt : m < w1.heap.size := by
    rcases Nat.lt_or_ge m w1.heap.size with h | h
    · exact h
    · simp [Array.getElem?_eq_none h] at hm1
  have hnx := fun ty => run_next_none (P := Try.prog) (w1.alloc (.mapIter (some m) 0 #[] 0)) ty w1.heap.size m hit ((Below.heap_alloc w1 _ _ hmlt).trans hm1)
  clear hp hf HH hm1 hit hmlt
  go_wp2_with fail
  refine wp_loop_rounds 1 ?_
  rw [rounds_succ]
  go_wp2_with fail
  go_end0
  exact ⟨rfl, HP1.out.alloc _, HF1.out.alloc _⟩

set_option maxHeartbeats 4000000 in
set_option maxRecDepth 100000 in
theorem pm0_1 {B bp : Nat} {xs : List Int} (m : Nat) (w : World) (hm : w.heap[m]? = some (.map #[] 0)) (h : PB w B bp xs) (hB : B ≤ w.heap.size) (hl : xs.length ≤ 1000000) :
    Calls Try.prog 54 #[.pointer (some ⟨bp, 0, none⟩), .map (some m)] w fun e w' => e = .returned (.tuple #[]) ∧ PB w' B bp (xs ++ encHead 160 216 0) ∧ Fr B bp w w' := by
  have HH := Aside0.mk (pk_head 0 160 216 w h hB (by omega) (by omega) (by omega) (by omega) (by omega))
  have hlen := fun ty => run_len_map (P := Try.prog) (w := w) 101 ty m _ 0 (by kernel_rfl) hm
  have HM := Aside0.mk hm
  have HPB := Aside0.mk h.cells
  clear hm h hB hl
  go_enter Try.func54, Try.ntmps54
  go_wp2_with fail
  refine (HH.out).mono ?_
  rintro e w1 ⟨rfl, hp, hf⟩
  have hm1 := fr_map hf (by intro cs t fr he; cases he) HM.out HPB.out
  have HP1 := Aside0.mk hp
  have HF1 := Aside0.mk hf
  have hrg := run_range_map (P := Try.prog) w1 101 9 2 m #[] 0 Try.underlying101 hm1
  have hit := heap_alloc_new w1 (.mapIter (some m) 0 #[] 0)
  have hmlt : m < w1.heap.size := by
    rcases Nat.lt_or_ge m w1.heap.size with h | h
    · exact h
    · simp [Array.getElem?_eq_none h] at hm1
  have hnx := fun ty => run_next_none (P := Try.prog) (w1.alloc (.mapIter (some m) 0 #[] 0)) ty w1.heap.size m hit ((Below.heap_alloc w1 _ _ hmlt).trans hm1)
  clear hp hf HH hm1 hit hmlt
  go_wp2_with fail
  refine wp_loop_rounds 1 ?_
  rw [rounds_succ]
  go_wp2_with fail
  go_end0
  exact ⟨rfl, HP1.out.alloc _, HF1.out.alloc _⟩

set_option maxHeartbeats 4000000 in
set_option maxRecDepth 100000 in
theorem pm0_2 {B bp : Nat} {xs : List Int} (m : Nat) (w : World) (hm : w.heap[m]? = some (.map #[] 0)) (h : PB w B bp xs) (hB : B ≤ w.heap.size) (hl : xs.length ≤ 1000000) :
    Calls Try.prog 55 #[.pointer (some ⟨bp, 0, none⟩), .map (some m)] w fun e w' => e = .returned (.tuple #[]) ∧ PB w' B bp (xs ++ encHead 160 216 0) ∧ Fr B bp w w' := by
  have HH := Aside0.mk (pk_head 0 160 216 w h hB (by omega) (by omega) (by omega) (by omega) (by omega))
  have hlen := fun ty => run_len_map (P := Try.prog) (w := w) 102 ty m _ 0 (by kernel_rfl) hm
  have HM := Aside0.mk hm
  have HPB := Aside0.mk h.cells
  clear hm h hB hl
  go_enter Try.func55, Try.ntmps55
  go_wp2_with fail
  refine (HH.out).mono ?_
  rintro e w1 ⟨rfl, hp, hf⟩
  have hm1 := fr_map hf (by intro cs t fr he; cases he) HM.out HPB.out
  have HP1 := Aside0.mk hp
  have HF1 := Aside0.mk hf
  have hrg := run_range_map (P := Try.prog) w1 102 9 96 m #[] 0 Try.underlying102 hm1
  have hit := heap_alloc_new w1 (.mapIter (some m) 0 #[] 0)
  have hmlt : m < w1.heap.size := by
    rcases Nat.lt_or_ge m w1.heap.size with h | h
    · exact h
    · simp [Array.getElem?_eq_none h] at hm1
  have hnx := fun ty => run_next_none (P := Try.prog) (w1.alloc (.mapIter (some m) 0 #[] 0)) ty w1.heap.size m hit ((Below.heap_alloc w1 _ _ hmlt).trans hm1)
  clear hp hf HH hm1 hit hmlt
  go_wp2_with fail
  refine wp_loop_rounds 1 ?_
  rw [rounds_succ]
  go_wp2_with fail
  go_end0
  exact ⟨rfl, HP1.out.alloc _, HF1.out.alloc _⟩

set_option maxHeartbeats 4000000 in
set_option maxRecDepth 100000 in
theorem pm0_3 {B bp : Nat} {xs : List Int} (m : Nat) (w : World) (hm : w.heap[m]? = some (.map #[] 0)) (h : PB w B bp xs) (hB : B ≤ w.heap.size) (hl : xs.length ≤ 1000000) :
    Calls Try.prog 56 #[.pointer (some ⟨bp, 0, none⟩), .map (some m)] w fun e w' => e = .returned (.tuple #[]) ∧ PB w' B bp (xs ++ encHead 160 216 0) ∧ Fr B bp w w' := by
  have HH := Aside0.mk (pk_head 0 160 216 w h hB (by omega) (by omega) (by omega) (by omega) (by omega))
  have hlen := fun ty => run_len_map (P := Try.prog) (w := w) 103 ty m _ 0 (by kernel_rfl) hm
  have HM := Aside0.mk hm
  have HPB := Aside0.mk h.cells
  clear hm h hB hl
  go_enter Try.func56, Try.ntmps56
  go_wp2_with fail
  refine (HH.out).mono ?_
  rintro e w1 ⟨rfl, hp, hf⟩
  have hm1 := fr_map hf (by intro cs t fr he; cases he) HM.out HPB.out
  have HP1 := Aside0.mk hp
  have HF1 := Aside0.mk hf
  have hrg := run_range_map (P := Try.prog) w1 103 9 9 m #[] 0 Try.underlying103 hm1
  have hit := heap_alloc_new w1 (.mapIter (some m) 0 #[] 0)
  have hmlt : m < w1.heap.size := by
    rcases Nat.lt_or_ge m w1.heap.size with h | h
    · exact h
    · simp [Array.getElem?_eq_none h] at hm1
  have hnx := fun ty => run_next_none (P := Try.prog) (w1.alloc (.mapIter (some m) 0 #[] 0)) ty w1.heap.size m hit ((Below.heap_alloc w1 _ _ hmlt).trans hm1)
  clear hp hf HH hm1 hit hmlt
  go_wp2_with fail
  refine wp_loop_rounds 1 ?_
  rw [rounds_succ]
  go_wp2_with fail
  go_end0
  exact ⟨rfl, HP1.out.alloc _, HF1.out.alloc _⟩

set_option maxHeartbeats 4000000 in
set_option maxRecDepth 100000 in
theorem pm0_4 {B bp : Nat} {xs : List Int} (m : Nat) (w : World) (hm : w.heap[m]? = some (.map #[] 0)) (h : PB w B bp xs) (hB : B ≤ w.heap.size) (hl : xs.length ≤ 1000000) :
    Calls Try.prog 57 #[.pointer (some ⟨bp, 0, none⟩), .map (some m)] w fun e w' => e = .returned (.tuple #[]) ∧ PB w' B bp (xs ++ encHead 160 216 0) ∧ Fr B bp w w' := by
  have HH := Aside0.mk (pk_head 0 160 216 w h hB (by omega) (by omega) (by omega) (by omega) (by omega))
  have hlen := fun ty => run_len_map (P := Try.prog) (w := w) 104 ty m _ 0 (by kernel_rfl) hm
  have HM := Aside0.mk hm
  have HPB := Aside0.mk h.cells
  clear hm h hB hl
  go_enter Try.func57, Try.ntmps57
  go_wp2_with fail
  refine (HH.out).mono ?_
  rintro e w1 ⟨rfl, hp, hf⟩
  have hm1 := fr_map hf (by intro cs t fr he; cases he) HM.out HPB.out
  have HP1 := Aside0.mk hp
  have HF1 := Aside0.mk hf
  have hrg := run_range_map (P := Try.prog) w1 104 9 69 m #[] 0 Try.underlying104 hm1
  have hit := heap_alloc_new w1 (.mapIter (some m) 0 #[] 0)
  have hmlt : m < w1.heap.size := by
    rcases Nat.lt_or_ge m w1.heap.size with h | h
    · exact h
    · simp [Array.getElem?_eq_none h] at hm1
  have hnx := fun ty => run_next_none (P := Try.prog) (w1.alloc (.mapIter (some m) 0 #[] 0)) ty w1.heap.size m hit ((Below.heap_alloc w1 _ _ hmlt).trans hm1)
  clear hp hf HH hm1 hit hmlt
  go_wp2_with fail
  refine wp_loop_rounds 1 ?_
  rw [rounds_succ]
  go_wp2_with fail
  go_end0
  exact ⟨rfl, HP1.out.alloc _, HF1.out.alloc _⟩

/-- The five maps. -/
def m5 (w1 : World) : World := ((((w1.alloc (.map #[] 0)).alloc (.map #[] 0)).alloc (.map #[] 0)).alloc (.map #[] 0)).alloc (.map #[] 0)
structure M5 (w1 W : World) (s : ByteArray) (o0 o1 o2 o3 o4 : Obj) : Prop where
  bel : Below w1.heap.size w1 W
  h0 : W.heap[w1.heap.size]? = some o0
  h1 : W.heap[w1.heap.size + 1]? = some o1
  h2 : W.heap[w1.heap.size + 2]? = some o2
  h3 : W.heap[w1.heap.size + 3]? = some o3
  h4 : W.heap[w1.heap.size + 4]? = some o4
  lt : w1.heap.size + 5 < W.heap.size
  rd : ReadsInt W .u8 (some ⟨w1.heap.size + 5, 0, none⟩) s.size (bytesOf s)
theorem reads_grown {W W' : World} {m bb n : Nat} {ys : List Int} (hg : W.grownBy W' (some m)) (hb : bb ≠ m) (hr : ReadsInt W .u8 (some ⟨bb, 0, none⟩) n ys) : ReadsInt W' .u8 (some ⟨bb, 0, none⟩) n ys := by
  refine ⟨hr.1, hr.2.1, fun hp => ?_⟩
  obtain ⟨ad, he, hc⟩ := hr.2.2 hp
  injection he with he
  subst he
  refine ⟨_, rfl, fun j hj => ?_⟩
  have h1 := hc j hj
  have e : ((⟨bb, 0, none⟩ : Addr).add j).block = bb := by unfold Addr.add; split <;> rfl
  have hk := hg.block bb (by have := World.block_lt_of_cell? W _ h1; rw [e] at this; exact this) (by intro he; injection he with he; exact hb he)
  unfold World.cell? at h1 ⊢
  rw [e] at h1 ⊢
  rw [hk]
  exact h1
section
variable {w1 W W' : World} {s : ByteArray} {o0 o1 o2 o3 o4 o' : Obj}
theorem M5.keep (h : M5 w1 W s o0 o1 o2 o3 o4) {m : Nat} (hg : W.grownBy W' (some m)) (hm : w1.heap.size ≤ m) {i : Nat} {o : Obj} (hi : W.heap[i]? = some o) (hne : i ≠ m) : W'.heap[i]? = some o := by
  have hlt : i < W.heap.size := by
    rcases Nat.lt_or_ge i W.heap.size with h | h
    · exact h
    · simp [Array.getElem?_eq_none h] at hi
  exact (hg.block i hlt (by intro he; injection he with he; exact hne he)).trans hi
theorem M5.up0 (h : M5 w1 W s o0 o1 o2 o3 o4) (hb : W'.heap[w1.heap.size]? = some o') (hg : W.grownBy W' (some (w1.heap.size))) : M5 w1 W' s o' o1 o2 o3 o4 :=
  ⟨h.bel.grown hg h.bel.size (by rintro q hq; injection hq with hq; omega), hb, (h.keep hg (by omega) h.h1 (by omega)), (h.keep hg (by omega) h.h2 (by omega)), (h.keep hg (by omega) h.h3 (by omega)), (h.keep hg (by omega) h.h4 (by omega)), Nat.lt_of_lt_of_le h.lt hg.size, reads_grown hg (by omega) h.rd⟩
theorem M5.up1 (h : M5 w1 W s o0 o1 o2 o3 o4) (hb : W'.heap[w1.heap.size + 1]? = some o') (hg : W.grownBy W' (some (w1.heap.size + 1))) : M5 w1 W' s o0 o' o2 o3 o4 :=
  ⟨h.bel.grown hg h.bel.size (by rintro q hq; injection hq with hq; omega), (h.keep hg (by omega) h.h0 (by omega)), hb, (h.keep hg (by omega) h.h2 (by omega)), (h.keep hg (by omega) h.h3 (by omega)), (h.keep hg (by omega) h.h4 (by omega)), Nat.lt_of_lt_of_le h.lt hg.size, reads_grown hg (by omega) h.rd⟩
theorem M5.up2 (h : M5 w1 W s o0 o1 o2 o3 o4) (hb : W'.heap[w1.heap.size + 2]? = some o') (hg : W.grownBy W' (some (w1.heap.size + 2))) : M5 w1 W' s o0 o1 o' o3 o4 :=
  ⟨h.bel.grown hg h.bel.size (by rintro q hq; injection hq with hq; omega), (h.keep hg (by omega) h.h0 (by omega)), (h.keep hg (by omega) h.h1 (by omega)), hb, (h.keep hg (by omega) h.h3 (by omega)), (h.keep hg (by omega) h.h4 (by omega)), Nat.lt_of_lt_of_le h.lt hg.size, reads_grown hg (by omega) h.rd⟩
theorem M5.up3 (h : M5 w1 W s o0 o1 o2 o3 o4) (hb : W'.heap[w1.heap.size + 3]? = some o') (hg : W.grownBy W' (some (w1.heap.size + 3))) : M5 w1 W' s o0 o1 o2 o' o4 :=
  ⟨h.bel.grown hg h.bel.size (by rintro q hq; injection hq with hq; omega), (h.keep hg (by omega) h.h0 (by omega)), (h.keep hg (by omega) h.h1 (by omega)), (h.keep hg (by omega) h.h2 (by omega)), hb, (h.keep hg (by omega) h.h4 (by omega)), Nat.lt_of_lt_of_le h.lt hg.size, reads_grown hg (by omega) h.rd⟩
theorem M5.up4 (h : M5 w1 W s o0 o1 o2 o3 o4) (hb : W'.heap[w1.heap.size + 4]? = some o') (hg : W.grownBy W' (some (w1.heap.size + 4))) : M5 w1 W' s o0 o1 o2 o3 o' :=
  ⟨h.bel.grown hg h.bel.size (by rintro q hq; injection hq with hq; omega), (h.keep hg (by omega) h.h0 (by omega)), (h.keep hg (by omega) h.h1 (by omega)), (h.keep hg (by omega) h.h2 (by omega)), (h.keep hg (by omega) h.h3 (by omega)), hb, Nat.lt_of_lt_of_le h.lt hg.size, reads_grown hg (by omega) h.rd⟩
end
theorem m5_size (w1 : World) : (m5 w1).heap.size = w1.heap.size + 5 := by unfold m5; simp [World.size_alloc]
theorem m5_below (w1 : World) : Below w1.heap.size w1 (m5 w1) := below_alloc (below_alloc (below_alloc (below_alloc (below_alloc (Below.refl _ _) _) _) _) _) _
theorem m5_at (w1 : World) (q : Nat) (hq : q < 5) : (m5 w1).heap[w1.heap.size + q]? = some (.map #[] 0) := by
  have hn : ∀ (W : World) (j : Nat), W.heap.size = w1.heap.size + j → (W.alloc (.map #[] 0)).heap[w1.heap.size + j]? = some (.map #[] 0) := fun W j h => by rw [← h]; exact heap_alloc_new W _
  have ho : ∀ (W : World) (j : Nat), w1.heap.size + j < W.heap.size → W.heap[w1.heap.size + j]? = some (.map #[] 0) → (W.alloc (.map #[] 0)).heap[w1.heap.size + j]? = some (.map #[] 0) := fun W j h1 h2 => (Below.heap_alloc W _ _ h1).trans h2
  unfold m5
  rcases (show q = 0 ∨ q = 1 ∨ q = 2 ∨ q = 3 ∨ q = 4 by omega) with rfl | rfl | rfl | rfl | rfl
  · exact ho _ _ (by simp only [World.size_alloc]; omega) (ho _ _ (by simp only [World.size_alloc]; omega) (ho _ _ (by simp only [World.size_alloc]; omega) (ho _ _ (by simp only [World.size_alloc]; omega) (hn _ _ rfl))))
  · exact ho _ _ (by simp only [World.size_alloc]; omega) (ho _ _ (by simp only [World.size_alloc]; omega) (ho _ _ (by simp only [World.size_alloc]; omega) (hn _ _ (by simp only [World.size_alloc]))))
  · exact ho _ _ (by simp only [World.size_alloc]; omega) (ho _ _ (by simp only [World.size_alloc]; omega) (hn _ _ (by simp only [World.size_alloc])))
  · exact ho _ _ (by simp only [World.size_alloc]; omega) (hn _ _ (by simp only [World.size_alloc]))
  · exact hn _ _ (by simp only [World.size_alloc])
theorem m5_start (w1 : World) (s : ByteArray) (hs : s.size ≤ 300) : M5 w1 (Lib.bytesWorld (m5 w1) 5 s) s (.map #[] 0) (.map #[] 0) (.map #[] 0) (.map #[] 0) (.map #[] 0) := by
  have hb := bytes_below (Below.refl (m5 w1).heap.size (m5 w1)) (Nat.le_refl _) 5 s
  have hz := m5_size w1
  have hr := bytes_reads (m5 w1) 5 s (by omega)
  rw [hz] at hr
  have hlt : w1.heap.size + 5 < (Lib.bytesWorld (m5 w1) 5 s).heap.size := by have := Lib.bytesWorld_size (m5 w1) 5 s; omega
  exact ⟨(m5_below w1).trans (hb.mono (m5_below w1).size), (hb.block _ (by omega)).trans (m5_at w1 0 (by omega)), (hb.block _ (by omega)).trans (m5_at w1 1 (by omega)), (hb.block _ (by omega)).trans (m5_at w1 2 (by omega)),
    (hb.block _ (by omega)).trans (m5_at w1 3 (by omega)), (hb.block _ (by omega)).trans (m5_at w1 4 (by omega)), hlt, hr⟩

set_option maxHeartbeats 4000000 in
set_option maxRecDepth 100000 in
theorem map0 (key s : ByteArray) (i f : Int) (w : World) (hk : key.size ≤ 300) (hs : s.size ≤ 300) (hi0 : -9223372036854775808 ≤ i) (hi1 : i < 9223372036854775808) (hf0 : 0 ≤ f) (hf1 : f < 18446744073709551616) :
    Calls Try.prog 25 #[.int .i64 0, .string key, .int .i64 i, .int .u64 f, .string s] w fun e w' => e = .returned (.tuple #[.string (strOfNums (encHead 160 216 1 ++ encText key ++ encInt i)), .int .i64 0]) ∧ Below w.heap.size w w' := by
  have hmm := @run_makeMap Try.prog
  have hfb := fun (n : Int) (w : World) => run_frombits n w
  have hbs := fun w => print_bytes (P := Try.prog) 9 69 5 Try.underlying9 Try.underlying69 Try.underlying5 s w
  go_enter Try.func25, Try.ntmps25
  go_wp2_with fail
  refine (pk_begin _ (heap_alloc_new w _)).mono ?_
  rintro e w1 ⟨rfl, hb1, hg1⟩
  have hbe := (below_alloc (Below.refl w.heap.size w) _).grown hg1 (by simp) (by rintro k hk; injection hk with hk; omega)
  have HBE := Aside0.mk (And.intro hbe (blk_lt hb1))
  have HPB := Aside0.mk hb1
  have HM0 := Aside0.mk (m5_start w1 s hs)
  clear hb1 hg1 hbe
  go_wp2_with (first
    | (at_mapUpdate; refine wpList_mapUpdate_new _ rfl _ _ _ 100 rfl 9 3 Try.underlying100 Try.underlying9 w1.heap.size rfl HM0.out.h0 key _ rfl rfl ?_; intro wa hba hga; have HM1 := Aside0.mk (HM0.out.up0 hba hga); clear hba hga)
    | (at_mapUpdate; refine wpList_mapUpdate_new _ rfl _ _ _ 101 rfl 9 2 Try.underlying101 Try.underlying9 (w1.heap.size + 1) rfl HM1.out.h1 key _ rfl rfl ?_; intro wb hbb hgb; have HM2 := Aside0.mk (HM1.out.up1 hbb hgb); clear hbb hgb)
    | (at_mapUpdate; refine wpList_mapUpdate_new _ rfl _ _ _ 102 rfl 9 96 Try.underlying102 Try.underlying9 (w1.heap.size + 2) rfl HM2.out.h2 key _ rfl rfl ?_; intro wc hbc hgc; have HM3 := Aside0.mk (HM2.out.up2 hbc hgc); clear hbc hgc)
    | (at_mapUpdate; refine wpList_mapUpdate_new _ rfl _ _ _ 103 rfl 9 9 Try.underlying103 Try.underlying9 (w1.heap.size + 3) rfl HM3.out.h3 key _ rfl rfl ?_; intro wd hbd hgd; have HM4 := Aside0.mk (HM3.out.up3 hbd hgd); clear hbd hgd)
    | (at_mapUpdate; refine wpList_mapUpdate_new _ rfl _ _ _ 104 rfl 9 69 Try.underlying104 Try.underlying9 (w1.heap.size + 4) rfl HM4.out.h4 key _ rfl rfl ?_; intro we hbe hge; have HM5 := Aside0.mk (HM4.out.up4 hbe hge); clear hbe hge))
  have HPW := Aside0.mk (show PB we we.heap.size w.heap.size [] from ⟨.slice none 0 0, (HM5.out.bel.block _ HBE.out.2).trans HPB.out, own_nil _ _ _ _⟩)
  have HBW := Aside0.mk (HBE.out.1.trans (HM5.out.bel.mono HBE.out.1.size))
  have HCALL := Aside0.mk (pm_int (B := we.heap.size) (bp := w.heap.size) (xs := []) (w1.heap.size) key we i hi0 hi1 HM5.out.h0 HPW.out (Nat.le_refl _) (by simp) hk)
  refine (HCALL.out).mono ?_
  rintro e w2 ⟨rfl, hp2, hf2⟩
  rw [List.nil_append] at hp2
  have hf2f : Below w.heap.size we w2 := ⟨hf2.os, hf2.tape, hf2.output, hf2.size, fun q hq => hf2.blk q (by have := HBW.out.size; omega) (by omega) (.inl (by have := HBW.out.size; omega))⟩
  have HP2 := Lib.hid hp2
  have HF2 := Lib.hid (HBW.out.trans hf2f)
  clear hp2 hf2 hf2f HCALL HPW HBW HPB
  go_wp2_with fail
  refine (ended_any _ HP2.out).mono ?_
  rintro e w3 ⟨rfl, ⟨nd, rfl⟩⟩
  go_wp2_with fail
  go_ret2
  exact ⟨rfl, pw_below_drewN HF2.out nd⟩

set_option maxHeartbeats 4000000 in
set_option maxRecDepth 100000 in
theorem map0e (key s : ByteArray) (i f : Int) (w : World) :
    Calls Try.prog 25 #[.int .i64 10, .string key, .int .i64 i, .int .u64 f, .string s] w fun e w' => e = .returned (.tuple #[.string (strOfNums (encHead 160 216 0)), .int .i64 0]) ∧ Below w.heap.size w w' := by
  have hmm := @run_makeMap Try.prog
  go_enter Try.func25, Try.ntmps25
  go_wp2_with fail
  refine (pk_begin _ (heap_alloc_new w _)).mono ?_
  rintro e w1 ⟨rfl, hb1, hg1⟩
  have hbe := (below_alloc (Below.refl w.heap.size w) _).grown hg1 (by simp) (by rintro k hk; injection hk with hk; omega)
  have HBE := Aside0.mk (And.intro hbe (blk_lt hb1))
  have HPB := Aside0.mk hb1
  clear hb1 hg1 hbe
  have HPW := Aside0.mk (show PB (m5 w1) (m5 w1).heap.size w.heap.size [] from ⟨.slice none 0 0, ((m5_below w1).block _ HBE.out.2).trans HPB.out, own_nil _ _ _ _⟩)
  have HBW := Aside0.mk (HBE.out.1.trans ((m5_below w1).mono HBE.out.1.size))
  have HCALL := Aside0.mk (pm0_0 (B := (m5 w1).heap.size) (bp := w.heap.size) (xs := []) (w1.heap.size) (m5 w1) (m5_at w1 0 (by omega)) HPW.out (Nat.le_refl _) (by simp))
  go_wp2_with fail
  refine (HCALL.out).mono ?_
  rintro e w2 ⟨rfl, hp2, hf2⟩
  rw [List.nil_append] at hp2
  have hf2f : Below w.heap.size (m5 w1) w2 := ⟨hf2.os, hf2.tape, hf2.output, hf2.size, fun q hq => hf2.blk q (by have := HBW.out.size; omega) (by omega) (.inl (by have := HBW.out.size; omega))⟩
  have HP2 := Lib.hid hp2
  have HF2 := Lib.hid (HBW.out.trans hf2f)
  clear hp2 hf2 hf2f HCALL HPW HBW HPB
  go_wp2_with fail
  refine (ended_any _ HP2.out).mono ?_
  rintro e w3 ⟨rfl, ⟨nd, rfl⟩⟩
  go_wp2_with fail
  go_ret2
  exact ⟨rfl, pw_below_drewN HF2.out nd⟩

set_option maxHeartbeats 4000000 in
set_option maxRecDepth 100000 in
theorem map1 (key s : ByteArray) (i f : Int) (w : World) (hk : key.size ≤ 300) (hs : s.size ≤ 300) (hi0 : -9223372036854775808 ≤ i) (hi1 : i < 9223372036854775808) (hf0 : 0 ≤ f) (hf1 : f < 18446744073709551616) :
    Calls Try.prog 25 #[.int .i64 1, .string key, .int .i64 i, .int .u64 f, .string s] w fun e w' => e = .returned (.tuple #[.string (strOfNums (encHead 160 216 1 ++ encText key ++ encInt i)), .int .i64 0]) ∧ Below w.heap.size w w' := by
  have hmm := @run_makeMap Try.prog
  have hfb := fun (n : Int) (w : World) => run_frombits n w
  have hbs := fun w => print_bytes (P := Try.prog) 9 69 5 Try.underlying9 Try.underlying69 Try.underlying5 s w
  go_enter Try.func25, Try.ntmps25
  go_wp2_with fail
  refine (pk_begin _ (heap_alloc_new w _)).mono ?_
  rintro e w1 ⟨rfl, hb1, hg1⟩
  have hbe := (below_alloc (Below.refl w.heap.size w) _).grown hg1 (by simp) (by rintro k hk; injection hk with hk; omega)
  have HBE := Aside0.mk (And.intro hbe (blk_lt hb1))
  have HPB := Aside0.mk hb1
  have HM0 := Aside0.mk (m5_start w1 s hs)
  clear hb1 hg1 hbe
  go_wp2_with (first
    | (at_mapUpdate; refine wpList_mapUpdate_new _ rfl _ _ _ 100 rfl 9 3 Try.underlying100 Try.underlying9 w1.heap.size rfl HM0.out.h0 key _ rfl rfl ?_; intro wa hba hga; have HM1 := Aside0.mk (HM0.out.up0 hba hga); clear hba hga)
    | (at_mapUpdate; refine wpList_mapUpdate_new _ rfl _ _ _ 101 rfl 9 2 Try.underlying101 Try.underlying9 (w1.heap.size + 1) rfl HM1.out.h1 key _ rfl rfl ?_; intro wb hbb hgb; have HM2 := Aside0.mk (HM1.out.up1 hbb hgb); clear hbb hgb)
    | (at_mapUpdate; refine wpList_mapUpdate_new _ rfl _ _ _ 102 rfl 9 96 Try.underlying102 Try.underlying9 (w1.heap.size + 2) rfl HM2.out.h2 key _ rfl rfl ?_; intro wc hbc hgc; have HM3 := Aside0.mk (HM2.out.up2 hbc hgc); clear hbc hgc)
    | (at_mapUpdate; refine wpList_mapUpdate_new _ rfl _ _ _ 103 rfl 9 9 Try.underlying103 Try.underlying9 (w1.heap.size + 3) rfl HM3.out.h3 key _ rfl rfl ?_; intro wd hbd hgd; have HM4 := Aside0.mk (HM3.out.up3 hbd hgd); clear hbd hgd)
    | (at_mapUpdate; refine wpList_mapUpdate_new _ rfl _ _ _ 104 rfl 9 69 Try.underlying104 Try.underlying9 (w1.heap.size + 4) rfl HM4.out.h4 key _ rfl rfl ?_; intro we hbe hge; have HM5 := Aside0.mk (HM4.out.up4 hbe hge); clear hbe hge))
  have HPW := Aside0.mk (show PB we we.heap.size w.heap.size [] from ⟨.slice none 0 0, (HM5.out.bel.block _ HBE.out.2).trans HPB.out, own_nil _ _ _ _⟩)
  have HBW := Aside0.mk (HBE.out.1.trans (HM5.out.bel.mono HBE.out.1.size))
  have HCALL := Aside0.mk (pm_i64 (B := we.heap.size) (bp := w.heap.size) (xs := []) (w1.heap.size + 1) key we i hi0 hi1 HM5.out.h1 HPW.out (Nat.le_refl _) (by simp) hk)
  refine (HCALL.out).mono ?_
  rintro e w2 ⟨rfl, hp2, hf2⟩
  rw [List.nil_append] at hp2
  have hf2f : Below w.heap.size we w2 := ⟨hf2.os, hf2.tape, hf2.output, hf2.size, fun q hq => hf2.blk q (by have := HBW.out.size; omega) (by omega) (.inl (by have := HBW.out.size; omega))⟩
  have HP2 := Lib.hid hp2
  have HF2 := Lib.hid (HBW.out.trans hf2f)
  clear hp2 hf2 hf2f HCALL HPW HBW HPB
  go_wp2_with fail
  refine (ended_any _ HP2.out).mono ?_
  rintro e w3 ⟨rfl, ⟨nd, rfl⟩⟩
  go_wp2_with fail
  go_ret2
  exact ⟨rfl, pw_below_drewN HF2.out nd⟩

set_option maxHeartbeats 4000000 in
set_option maxRecDepth 100000 in
theorem map1e (key s : ByteArray) (i f : Int) (w : World) :
    Calls Try.prog 25 #[.int .i64 11, .string key, .int .i64 i, .int .u64 f, .string s] w fun e w' => e = .returned (.tuple #[.string (strOfNums (encHead 160 216 0)), .int .i64 0]) ∧ Below w.heap.size w w' := by
  have hmm := @run_makeMap Try.prog
  go_enter Try.func25, Try.ntmps25
  go_wp2_with fail
  refine (pk_begin _ (heap_alloc_new w _)).mono ?_
  rintro e w1 ⟨rfl, hb1, hg1⟩
  have hbe := (below_alloc (Below.refl w.heap.size w) _).grown hg1 (by simp) (by rintro k hk; injection hk with hk; omega)
  have HBE := Aside0.mk (And.intro hbe (blk_lt hb1))
  have HPB := Aside0.mk hb1
  clear hb1 hg1 hbe
  have HPW := Aside0.mk (show PB (m5 w1) (m5 w1).heap.size w.heap.size [] from ⟨.slice none 0 0, ((m5_below w1).block _ HBE.out.2).trans HPB.out, own_nil _ _ _ _⟩)
  have HBW := Aside0.mk (HBE.out.1.trans ((m5_below w1).mono HBE.out.1.size))
  have HCALL := Aside0.mk (pm0_1 (B := (m5 w1).heap.size) (bp := w.heap.size) (xs := []) (w1.heap.size + 1) (m5 w1) (m5_at w1 1 (by omega)) HPW.out (Nat.le_refl _) (by simp))
  go_wp2_with fail
  refine (HCALL.out).mono ?_
  rintro e w2 ⟨rfl, hp2, hf2⟩
  rw [List.nil_append] at hp2
  have hf2f : Below w.heap.size (m5 w1) w2 := ⟨hf2.os, hf2.tape, hf2.output, hf2.size, fun q hq => hf2.blk q (by have := HBW.out.size; omega) (by omega) (.inl (by have := HBW.out.size; omega))⟩
  have HP2 := Lib.hid hp2
  have HF2 := Lib.hid (HBW.out.trans hf2f)
  clear hp2 hf2 hf2f HCALL HPW HBW HPB
  go_wp2_with fail
  refine (ended_any _ HP2.out).mono ?_
  rintro e w3 ⟨rfl, ⟨nd, rfl⟩⟩
  go_wp2_with fail
  go_ret2
  exact ⟨rfl, pw_below_drewN HF2.out nd⟩

set_option maxHeartbeats 4000000 in
set_option maxRecDepth 100000 in
theorem map2 (key s : ByteArray) (i f : Int) (w : World) (hk : key.size ≤ 300) (hs : s.size ≤ 300) (hi0 : -9223372036854775808 ≤ i) (hi1 : i < 9223372036854775808) (hf0 : 0 ≤ f) (hf1 : f < 18446744073709551616) :
    Calls Try.prog 25 #[.int .i64 2, .string key, .int .i64 i, .int .u64 f, .string s] w fun e w' => e = .returned (.tuple #[.string (strOfNums (encHead 160 216 1 ++ encText key ++ encFloat f.toNat)), .int .i64 0]) ∧ Below w.heap.size w w' := by
  have hmm := @run_makeMap Try.prog
  have hfb := fun (n : Int) (w : World) => run_frombits n w
  have hbs := fun w => print_bytes (P := Try.prog) 9 69 5 Try.underlying9 Try.underlying69 Try.underlying5 s w
  go_enter Try.func25, Try.ntmps25
  go_wp2_with fail
  refine (pk_begin _ (heap_alloc_new w _)).mono ?_
  rintro e w1 ⟨rfl, hb1, hg1⟩
  have hbe := (below_alloc (Below.refl w.heap.size w) _).grown hg1 (by simp) (by rintro k hk; injection hk with hk; omega)
  have HBE := Aside0.mk (And.intro hbe (blk_lt hb1))
  have HPB := Aside0.mk hb1
  have HM0 := Aside0.mk (m5_start w1 s hs)
  clear hb1 hg1 hbe
  go_wp2_with (first
    | (at_mapUpdate; refine wpList_mapUpdate_new _ rfl _ _ _ 100 rfl 9 3 Try.underlying100 Try.underlying9 w1.heap.size rfl HM0.out.h0 key _ rfl rfl ?_; intro wa hba hga; have HM1 := Aside0.mk (HM0.out.up0 hba hga); clear hba hga)
    | (at_mapUpdate; refine wpList_mapUpdate_new _ rfl _ _ _ 101 rfl 9 2 Try.underlying101 Try.underlying9 (w1.heap.size + 1) rfl HM1.out.h1 key _ rfl rfl ?_; intro wb hbb hgb; have HM2 := Aside0.mk (HM1.out.up1 hbb hgb); clear hbb hgb)
    | (at_mapUpdate; refine wpList_mapUpdate_new _ rfl _ _ _ 102 rfl 9 96 Try.underlying102 Try.underlying9 (w1.heap.size + 2) rfl HM2.out.h2 key _ rfl rfl ?_; intro wc hbc hgc; have HM3 := Aside0.mk (HM2.out.up2 hbc hgc); clear hbc hgc)
    | (at_mapUpdate; refine wpList_mapUpdate_new _ rfl _ _ _ 103 rfl 9 9 Try.underlying103 Try.underlying9 (w1.heap.size + 3) rfl HM3.out.h3 key _ rfl rfl ?_; intro wd hbd hgd; have HM4 := Aside0.mk (HM3.out.up3 hbd hgd); clear hbd hgd)
    | (at_mapUpdate; refine wpList_mapUpdate_new _ rfl _ _ _ 104 rfl 9 69 Try.underlying104 Try.underlying9 (w1.heap.size + 4) rfl HM4.out.h4 key _ rfl rfl ?_; intro we hbe hge; have HM5 := Aside0.mk (HM4.out.up4 hbe hge); clear hbe hge))
  have HPW := Aside0.mk (show PB we we.heap.size w.heap.size [] from ⟨.slice none 0 0, (HM5.out.bel.block _ HBE.out.2).trans HPB.out, own_nil _ _ _ _⟩)
  have HBW := Aside0.mk (HBE.out.1.trans (HM5.out.bel.mono HBE.out.1.size))
  have HCALL := Aside0.mk (pm_f64 (B := we.heap.size) (bp := w.heap.size) (xs := []) (w1.heap.size + 1 + 1) key we f.toNat (by omega) HM5.out.h2 HPW.out (Nat.le_refl _) (by simp) hk)
  refine (HCALL.out).mono ?_
  rintro e w2 ⟨rfl, hp2, hf2⟩
  rw [List.nil_append] at hp2
  have hf2f : Below w.heap.size we w2 := ⟨hf2.os, hf2.tape, hf2.output, hf2.size, fun q hq => hf2.blk q (by have := HBW.out.size; omega) (by omega) (.inl (by have := HBW.out.size; omega))⟩
  have HP2 := Lib.hid hp2
  have HF2 := Lib.hid (HBW.out.trans hf2f)
  clear hp2 hf2 hf2f HCALL HPW HBW HPB
  go_wp2_with fail
  refine (ended_any _ HP2.out).mono ?_
  rintro e w3 ⟨rfl, ⟨nd, rfl⟩⟩
  go_wp2_with fail
  go_ret2
  exact ⟨rfl, pw_below_drewN HF2.out nd⟩

set_option maxHeartbeats 4000000 in
set_option maxRecDepth 100000 in
theorem map2e (key s : ByteArray) (i f : Int) (w : World) :
    Calls Try.prog 25 #[.int .i64 12, .string key, .int .i64 i, .int .u64 f, .string s] w fun e w' => e = .returned (.tuple #[.string (strOfNums (encHead 160 216 0)), .int .i64 0]) ∧ Below w.heap.size w w' := by
  have hmm := @run_makeMap Try.prog
  go_enter Try.func25, Try.ntmps25
  go_wp2_with fail
  refine (pk_begin _ (heap_alloc_new w _)).mono ?_
  rintro e w1 ⟨rfl, hb1, hg1⟩
  have hbe := (below_alloc (Below.refl w.heap.size w) _).grown hg1 (by simp) (by rintro k hk; injection hk with hk; omega)
  have HBE := Aside0.mk (And.intro hbe (blk_lt hb1))
  have HPB := Aside0.mk hb1
  clear hb1 hg1 hbe
  have HPW := Aside0.mk (show PB (m5 w1) (m5 w1).heap.size w.heap.size [] from ⟨.slice none 0 0, ((m5_below w1).block _ HBE.out.2).trans HPB.out, own_nil _ _ _ _⟩)
  have HBW := Aside0.mk (HBE.out.1.trans ((m5_below w1).mono HBE.out.1.size))
  have HCALL := Aside0.mk (pm0_2 (B := (m5 w1).heap.size) (bp := w.heap.size) (xs := []) (w1.heap.size + 1 + 1) (m5 w1) (m5_at w1 2 (by omega)) HPW.out (Nat.le_refl _) (by simp))
  go_wp2_with fail
  refine (HCALL.out).mono ?_
  rintro e w2 ⟨rfl, hp2, hf2⟩
  rw [List.nil_append] at hp2
  have hf2f : Below w.heap.size (m5 w1) w2 := ⟨hf2.os, hf2.tape, hf2.output, hf2.size, fun q hq => hf2.blk q (by have := HBW.out.size; omega) (by omega) (.inl (by have := HBW.out.size; omega))⟩
  have HP2 := Lib.hid hp2
  have HF2 := Lib.hid (HBW.out.trans hf2f)
  clear hp2 hf2 hf2f HCALL HPW HBW HPB
  go_wp2_with fail
  refine (ended_any _ HP2.out).mono ?_
  rintro e w3 ⟨rfl, ⟨nd, rfl⟩⟩
  go_wp2_with fail
  go_ret2
  exact ⟨rfl, pw_below_drewN HF2.out nd⟩

set_option maxHeartbeats 4000000 in
set_option maxRecDepth 100000 in
theorem map3 (key s : ByteArray) (i f : Int) (w : World) (hk : key.size ≤ 300) (hs : s.size ≤ 300) (hi0 : -9223372036854775808 ≤ i) (hi1 : i < 9223372036854775808) (hf0 : 0 ≤ f) (hf1 : f < 18446744073709551616) :
    Calls Try.prog 25 #[.int .i64 3, .string key, .int .i64 i, .int .u64 f, .string s] w fun e w' => e = .returned (.tuple #[.string (strOfNums (encHead 160 216 1 ++ encText key ++ encText s)), .int .i64 0]) ∧ Below w.heap.size w w' := by
  have hmm := @run_makeMap Try.prog
  have hfb := fun (n : Int) (w : World) => run_frombits n w
  have hbs := fun w => print_bytes (P := Try.prog) 9 69 5 Try.underlying9 Try.underlying69 Try.underlying5 s w
  go_enter Try.func25, Try.ntmps25
  go_wp2_with fail
  refine (pk_begin _ (heap_alloc_new w _)).mono ?_
  rintro e w1 ⟨rfl, hb1, hg1⟩
  have hbe := (below_alloc (Below.refl w.heap.size w) _).grown hg1 (by simp) (by rintro k hk; injection hk with hk; omega)
  have HBE := Aside0.mk (And.intro hbe (blk_lt hb1))
  have HPB := Aside0.mk hb1
  have HM0 := Aside0.mk (m5_start w1 s hs)
  clear hb1 hg1 hbe
  go_wp2_with (first
    | (at_mapUpdate; refine wpList_mapUpdate_new _ rfl _ _ _ 100 rfl 9 3 Try.underlying100 Try.underlying9 w1.heap.size rfl HM0.out.h0 key _ rfl rfl ?_; intro wa hba hga; have HM1 := Aside0.mk (HM0.out.up0 hba hga); clear hba hga)
    | (at_mapUpdate; refine wpList_mapUpdate_new _ rfl _ _ _ 101 rfl 9 2 Try.underlying101 Try.underlying9 (w1.heap.size + 1) rfl HM1.out.h1 key _ rfl rfl ?_; intro wb hbb hgb; have HM2 := Aside0.mk (HM1.out.up1 hbb hgb); clear hbb hgb)
    | (at_mapUpdate; refine wpList_mapUpdate_new _ rfl _ _ _ 102 rfl 9 96 Try.underlying102 Try.underlying9 (w1.heap.size + 2) rfl HM2.out.h2 key _ rfl rfl ?_; intro wc hbc hgc; have HM3 := Aside0.mk (HM2.out.up2 hbc hgc); clear hbc hgc)
    | (at_mapUpdate; refine wpList_mapUpdate_new _ rfl _ _ _ 103 rfl 9 9 Try.underlying103 Try.underlying9 (w1.heap.size + 3) rfl HM3.out.h3 key _ rfl rfl ?_; intro wd hbd hgd; have HM4 := Aside0.mk (HM3.out.up3 hbd hgd); clear hbd hgd)
    | (at_mapUpdate; refine wpList_mapUpdate_new _ rfl _ _ _ 104 rfl 9 69 Try.underlying104 Try.underlying9 (w1.heap.size + 4) rfl HM4.out.h4 key _ rfl rfl ?_; intro we hbe hge; have HM5 := Aside0.mk (HM4.out.up4 hbe hge); clear hbe hge))
  have HPW := Aside0.mk (show PB we we.heap.size w.heap.size [] from ⟨.slice none 0 0, (HM5.out.bel.block _ HBE.out.2).trans HPB.out, own_nil _ _ _ _⟩)
  have HBW := Aside0.mk (HBE.out.1.trans (HM5.out.bel.mono HBE.out.1.size))
  have HCALL := Aside0.mk (pm_str (B := we.heap.size) (bp := w.heap.size) (xs := []) (w1.heap.size + 1 + 1 + 1) key we s hs HM5.out.h3 HPW.out (Nat.le_refl _) (by simp) hk)
  refine (HCALL.out).mono ?_
  rintro e w2 ⟨rfl, hp2, hf2⟩
  rw [List.nil_append] at hp2
  have hf2f : Below w.heap.size we w2 := ⟨hf2.os, hf2.tape, hf2.output, hf2.size, fun q hq => hf2.blk q (by have := HBW.out.size; omega) (by omega) (.inl (by have := HBW.out.size; omega))⟩
  have HP2 := Lib.hid hp2
  have HF2 := Lib.hid (HBW.out.trans hf2f)
  clear hp2 hf2 hf2f HCALL HPW HBW HPB
  go_wp2_with fail
  refine (ended_any _ HP2.out).mono ?_
  rintro e w3 ⟨rfl, ⟨nd, rfl⟩⟩
  go_wp2_with fail
  go_ret2
  exact ⟨rfl, pw_below_drewN HF2.out nd⟩

set_option maxHeartbeats 4000000 in
set_option maxRecDepth 100000 in
theorem map3e (key s : ByteArray) (i f : Int) (w : World) :
    Calls Try.prog 25 #[.int .i64 13, .string key, .int .i64 i, .int .u64 f, .string s] w fun e w' => e = .returned (.tuple #[.string (strOfNums (encHead 160 216 0)), .int .i64 0]) ∧ Below w.heap.size w w' := by
  have hmm := @run_makeMap Try.prog
  go_enter Try.func25, Try.ntmps25
  go_wp2_with fail
  refine (pk_begin _ (heap_alloc_new w _)).mono ?_
  rintro e w1 ⟨rfl, hb1, hg1⟩
  have hbe := (below_alloc (Below.refl w.heap.size w) _).grown hg1 (by simp) (by rintro k hk; injection hk with hk; omega)
  have HBE := Aside0.mk (And.intro hbe (blk_lt hb1))
  have HPB := Aside0.mk hb1
  clear hb1 hg1 hbe
  have HPW := Aside0.mk (show PB (m5 w1) (m5 w1).heap.size w.heap.size [] from ⟨.slice none 0 0, ((m5_below w1).block _ HBE.out.2).trans HPB.out, own_nil _ _ _ _⟩)
  have HBW := Aside0.mk (HBE.out.1.trans ((m5_below w1).mono HBE.out.1.size))
  have HCALL := Aside0.mk (pm0_3 (B := (m5 w1).heap.size) (bp := w.heap.size) (xs := []) (w1.heap.size + 1 + 1 + 1) (m5 w1) (m5_at w1 3 (by omega)) HPW.out (Nat.le_refl _) (by simp))
  go_wp2_with fail
  refine (HCALL.out).mono ?_
  rintro e w2 ⟨rfl, hp2, hf2⟩
  rw [List.nil_append] at hp2
  have hf2f : Below w.heap.size (m5 w1) w2 := ⟨hf2.os, hf2.tape, hf2.output, hf2.size, fun q hq => hf2.blk q (by have := HBW.out.size; omega) (by omega) (.inl (by have := HBW.out.size; omega))⟩
  have HP2 := Lib.hid hp2
  have HF2 := Lib.hid (HBW.out.trans hf2f)
  clear hp2 hf2 hf2f HCALL HPW HBW HPB
  go_wp2_with fail
  refine (ended_any _ HP2.out).mono ?_
  rintro e w3 ⟨rfl, ⟨nd, rfl⟩⟩
  go_wp2_with fail
  go_ret2
  exact ⟨rfl, pw_below_drewN HF2.out nd⟩

set_option maxHeartbeats 4000000 in
set_option maxRecDepth 100000 in
theorem map4 (key s : ByteArray) (i f : Int) (w : World) (hk : key.size ≤ 300) (hs : s.size ≤ 300) (hi0 : -9223372036854775808 ≤ i) (hi1 : i < 9223372036854775808) (hf0 : 0 ≤ f) (hf1 : f < 18446744073709551616) :
    Calls Try.prog 25 #[.int .i64 4, .string key, .int .i64 i, .int .u64 f, .string s] w fun e w' => e = .returned (.tuple #[.string (strOfNums (encHead 160 216 1 ++ encText key ++ (encByteHead s.size ++ bytesOf s))), .int .i64 0]) ∧ Below w.heap.size w w' := by
  have hmm := @run_makeMap Try.prog
  have hfb := fun (n : Int) (w : World) => run_frombits n w
  have hbs := fun w => print_bytes (P := Try.prog) 9 69 5 Try.underlying9 Try.underlying69 Try.underlying5 s w
  go_enter Try.func25, Try.ntmps25
  go_wp2_with fail
  refine (pk_begin _ (heap_alloc_new w _)).mono ?_
  rintro e w1 ⟨rfl, hb1, hg1⟩
  have hbe := (below_alloc (Below.refl w.heap.size w) _).grown hg1 (by simp) (by rintro k hk; injection hk with hk; omega)
  have HBE := Aside0.mk (And.intro hbe (blk_lt hb1))
  have HPB := Aside0.mk hb1
  have HM0 := Aside0.mk (m5_start w1 s hs)
  clear hb1 hg1 hbe
  go_wp2_with (first
    | (at_mapUpdate; refine wpList_mapUpdate_new _ rfl _ _ _ 100 rfl 9 3 Try.underlying100 Try.underlying9 w1.heap.size rfl HM0.out.h0 key _ rfl rfl ?_; intro wa hba hga; have HM1 := Aside0.mk (HM0.out.up0 hba hga); clear hba hga)
    | (at_mapUpdate; refine wpList_mapUpdate_new _ rfl _ _ _ 101 rfl 9 2 Try.underlying101 Try.underlying9 (w1.heap.size + 1) rfl HM1.out.h1 key _ rfl rfl ?_; intro wb hbb hgb; have HM2 := Aside0.mk (HM1.out.up1 hbb hgb); clear hbb hgb)
    | (at_mapUpdate; refine wpList_mapUpdate_new _ rfl _ _ _ 102 rfl 9 96 Try.underlying102 Try.underlying9 (w1.heap.size + 2) rfl HM2.out.h2 key _ rfl rfl ?_; intro wc hbc hgc; have HM3 := Aside0.mk (HM2.out.up2 hbc hgc); clear hbc hgc)
    | (at_mapUpdate; refine wpList_mapUpdate_new _ rfl _ _ _ 103 rfl 9 9 Try.underlying103 Try.underlying9 (w1.heap.size + 3) rfl HM3.out.h3 key _ rfl rfl ?_; intro wd hbd hgd; have HM4 := Aside0.mk (HM3.out.up3 hbd hgd); clear hbd hgd)
    | (at_mapUpdate; refine wpList_mapUpdate_new _ rfl _ _ _ 104 rfl 9 69 Try.underlying104 Try.underlying9 (w1.heap.size + 4) rfl HM4.out.h4 key _ rfl rfl ?_; intro we hbe hge; have HM5 := Aside0.mk (HM4.out.up4 hbe hge); clear hbe hge))
  have HPW := Aside0.mk (show PB we we.heap.size w.heap.size [] from ⟨.slice none 0 0, (HM5.out.bel.block _ HBE.out.2).trans HPB.out, own_nil _ _ _ _⟩)
  have HBW := Aside0.mk (HBE.out.1.trans (HM5.out.bel.mono HBE.out.1.size))
  have HCALL := Aside0.mk (pm_bys (B := we.heap.size) (bp := w.heap.size) (xs := []) (w1.heap.size + 1 + 1 + 1 + 1) key we s (w1.heap.size + 5) _ hs HM5.out.rd ⟨HM5.out.lt, by have := HBE.out.2; omega⟩ HM5.out.h4 HPW.out (Nat.le_refl _) (by simp) hk)
  refine (HCALL.out).mono ?_
  rintro e w2 ⟨rfl, hp2, hf2⟩
  rw [List.nil_append] at hp2
  have hf2f : Below w.heap.size we w2 := ⟨hf2.os, hf2.tape, hf2.output, hf2.size, fun q hq => hf2.blk q (by have := HBW.out.size; omega) (by omega) (.inl (by have := HBW.out.size; omega))⟩
  have HP2 := Lib.hid hp2
  have HF2 := Lib.hid (HBW.out.trans hf2f)
  clear hp2 hf2 hf2f HCALL HPW HBW HPB
  go_wp2_with fail
  refine (ended_any _ HP2.out).mono ?_
  rintro e w3 ⟨rfl, ⟨nd, rfl⟩⟩
  go_wp2_with fail
  go_ret2
  exact ⟨rfl, pw_below_drewN HF2.out nd⟩

set_option maxHeartbeats 4000000 in
set_option maxRecDepth 100000 in
theorem map4e (key s : ByteArray) (i f : Int) (w : World) :
    Calls Try.prog 25 #[.int .i64 14, .string key, .int .i64 i, .int .u64 f, .string s] w fun e w' => e = .returned (.tuple #[.string (strOfNums (encHead 160 216 0)), .int .i64 0]) ∧ Below w.heap.size w w' := by
  have hmm := @run_makeMap Try.prog
  go_enter Try.func25, Try.ntmps25
  go_wp2_with fail
  refine (pk_begin _ (heap_alloc_new w _)).mono ?_
  rintro e w1 ⟨rfl, hb1, hg1⟩
  have hbe := (below_alloc (Below.refl w.heap.size w) _).grown hg1 (by simp) (by rintro k hk; injection hk with hk; omega)
  have HBE := Aside0.mk (And.intro hbe (blk_lt hb1))
  have HPB := Aside0.mk hb1
  clear hb1 hg1 hbe
  have HPW := Aside0.mk (show PB (m5 w1) (m5 w1).heap.size w.heap.size [] from ⟨.slice none 0 0, ((m5_below w1).block _ HBE.out.2).trans HPB.out, own_nil _ _ _ _⟩)
  have HBW := Aside0.mk (HBE.out.1.trans ((m5_below w1).mono HBE.out.1.size))
  have HCALL := Aside0.mk (pm0_4 (B := (m5 w1).heap.size) (bp := w.heap.size) (xs := []) (w1.heap.size + 1 + 1 + 1 + 1) (m5 w1) (m5_at w1 4 (by omega)) HPW.out (Nat.le_refl _) (by simp))
  go_wp2_with fail
  refine (HCALL.out).mono ?_
  rintro e w2 ⟨rfl, hp2, hf2⟩
  rw [List.nil_append] at hp2
  have hf2f : Below w.heap.size (m5 w1) w2 := ⟨hf2.os, hf2.tape, hf2.output, hf2.size, fun q hq => hf2.blk q (by have := HBW.out.size; omega) (by omega) (.inl (by have := HBW.out.size; omega))⟩
  have HP2 := Lib.hid hp2
  have HF2 := Lib.hid (HBW.out.trans hf2f)
  clear hp2 hf2 hf2f HCALL HPW HBW HPB
  go_wp2_with fail
  refine (ended_any _ HP2.out).mono ?_
  rintro e w3 ⟨rfl, ⟨nd, rfl⟩⟩
  go_wp2_with fail
  go_ret2
  exact ⟨rfl, pw_below_drewN HF2.out nd⟩
end Go.Proofs.Ytjnookhdiolhgaa
