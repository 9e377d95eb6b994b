/- The packer's methods for maps: of one entry, of none. -/
import Derived.Test.YtjnookhdiolhgaaMapOne
import Derived.Test.YtjnookhdiolhgaaNum
import Derived.Test.YtjnookhdiolhgaaPack
import Derived.LoopN
namespace Go.Proofs.Ytjnookhdiolhgaa
set_option linter.unusedVariables false
set_option linter.unusedSimpArgs false
open Go.RowKit Go.Proofs.YtjnookhdiolhgaaW.PrintWords
open Go.ChangeMaps (setBlock)
open PAll (info5 S26 k26)

theorem fr_map {B bp : Nat} {w w' : World} (h : Fr B bp w w') {m : Nat} {o : Obj} (ho : ∀ cs t fr, o ≠ .cells cs t fr) (hm : w.heap[m]? = some o) (hp : ∃ cs t fr, w.heap[bp]? = some (.cells cs t fr)) : w'.heap[m]? = some o := by
  have hne : m ≠ bp := by
    rintro rfl
    obtain ⟨cs, t, fr, h2⟩ := hp
    rw [hm] at h2
    injection h2 with h2
    exact ho _ _ _ h2
  have hlt : m < w.heap.size := by
    rcases Nat.lt_or_ge m w.heap.size with h | h
    · exact h
    · simp [Array.getElem?_eq_none h] at hm
  exact (h.blk m hlt hne (.inr fun cs fr e => by rw [hm] at e; injection e with e; exact ho _ _ _ e)).trans hm
theorem fr_reads {B bp : Nat} {w w' : World} (h : Fr B bp w w') {bb n : Nat} {ys : List Int} (hb : bb ≠ bp) (hB : bb < B) (hr : ReadsInt w .u8 (some ⟨bb, 0, none⟩) n ys) : ReadsInt w' .u8 (some ⟨bb, 0, none⟩) n ys := by
  refine ⟨hr.1, hr.2.1, fun hp => ?_⟩
  obtain ⟨ad, he, hc⟩ := hr.2.2 hp
  injection he with he
  subst he
  refine ⟨_, rfl, fun j hj => ?_⟩
  have h1 := hc j hj
  have e : ((⟨bb, 0, none⟩ : Addr).add j).block = bb := by unfold Addr.add; split <;> rfl
  have hk := h.blk bb (by have := World.block_lt_of_cell? w _ h1; rw [e] at this; exact this) hb (.inl hB)
  unfold World.cell? at h1 ⊢
  rw [e] at h1 ⊢
  rw [hk]
  exact h1
theorem pb_apart {w : World} {B bp bb : Nat} {xs : List Int} (h : PB w B bp xs) (hB : bb < B) (hb : bb ≠ bp) : Apart w bp (some ⟨bb, 0, none⟩) := by
  rintro ad he
  injection he with he
  subst he
  obtain ⟨v, h1, h2⟩ := h
  refine ⟨hb, fun v' hv' => ?_⟩
  rw [h1] at hv'
  injection hv' with hv'
  injection hv' with hv' _ _
  have hvv : v = v' := by simpa using hv'
  subst hvv
  intro hc
  have := own_base h2 bb hc
  omega
theorem PB.cells {w : World} {B bp : Nat} {xs : List Int} (h : PB w B bp xs) : ∃ cs t fr, w.heap[bp]? = some (.cells cs t fr) := by
  obtain ⟨v, h1, _⟩ := h
  exact ⟨_, _, _, h1⟩

set_option maxHeartbeats 4000000 in
set_option maxRecDepth 100000 in
theorem pm_int {B bp : Nat} {xs : List Int} (m : Nat) (key : ByteArray) (w : World) (i : Int) (hi0 : -9223372036854775808 ≤ i) (hi1 : i < 9223372036854775808) (hm : w.heap[m]? = some (oneMap key (.int .i64 i))) (h : PB w B bp xs) (hB : B ≤ w.heap.size) (hl : xs.length ≤ 1000000) (hk : key.size ≤ 300) :
    Calls Try.prog 53 #[.pointer (some ⟨bp, 0, none⟩), .map (some m)] w fun e w' => e = .returned (.tuple #[]) ∧ PB w' B bp (xs ++ encHead 160 216 1 ++ encText key ++ encInt i) ∧ Fr B bp w w' := by
  have HH := Aside0.mk (pk_head 1 160 216 w h hB (by omega) (by omega) (by omega) (by omega) (by omega))
  have hm' : w.heap[m]? = some (.map #[{ key := .string key, val := .int .i64 i, born := 0 }] 1) := hm
  have hlen := fun ty => run_len_map (P := Try.prog) (w := w) 100 ty m _ 1 (by kernel_rfl) hm'
  have HM := Aside0.mk hm
  have HPB := Aside0.mk h.cells
  have HBS := Aside0.mk hB
  have HL := Aside0.mk hl
  clear hm h hB hl
  go_enter Try.func53, Try.ntmps53
  go_wp2_with fail
  refine (HH.out).mono ?_
  rintro e w1 ⟨rfl, hp, hf⟩
  have hm1 := fr_map hf (by intro cs t fr he; cases he) HM.out HPB.out
  have HP1 := Aside0.mk hp
  have HF1 := Aside0.mk hf
  have hrg := run_range_map (P := Try.prog) w1 100 9 3 m #[{ key := .string key, val := .int .i64 i, born := 0 }] 1 Try.underlying100 hm1
  have hit := heap_alloc_new w1 (.mapIter (some m) 1 #[] 1)
  have hit2 := heap_alloc_new w1 (.mapIter (some m) 1 #[0] 1)
  have hmlt : m < w1.heap.size := by
    rcases Nat.lt_or_ge m w1.heap.size with h | h
    · exact h
    · simp [Array.getElem?_eq_none h] at hm1
  have hma : ∀ o, (w1.alloc o).heap[m]? = some (oneMap key (.int .i64 i)) := fun o => (Below.heap_alloc w1 o _ hmlt).trans hm1
  have hnx := fun ty => (run_next_one (P := Try.prog) (w1.alloc (.mapIter (some m) 1 #[] 1)) ty w1.heap.size m key (.int .i64 i) hit (hma _)).trans (by rw [setBlock_alloc])
  have hen := run_entry_one (P := Try.prog) (w1.alloc (.mapIter (some m) 1 #[0] 1)) w1.heap.size m key (.int .i64 i) hit2 (hma _)
  have HM2 := Aside0.mk (hma (.mapIter (some m) 1 #[0] 1))
  have HI2 := Aside0.mk hit2
  clear hp hf HH hm' hm1 hma hit hit2 hmlt
  have HP2 := Aside0.mk (HP1.out.alloc (.mapIter (some m) 1 #[0] 1))
  have HF2 := Aside0.mk (HF1.out.alloc (.mapIter (some m) 1 #[0] 1))
  have hB2 : B ≤ (w1.alloc (.mapIter (some m) 1 #[0] 1)).heap.size := by have := HF2.out.size; have := HBS.out; omega
  have hlx : (xs ++ encHead 160 216 1).length ≤ 1000005 := by have := encHead_len 160 216 1; have := HL.out; rw [List.length_append]; omega
  have HST := Aside0.mk (pk_string key _ HP2.out hB2 (by omega) (by omega))
  clear hB2
  go_wp2_with fail
  refine wp_loop_rounds 2 ?_
  rw [rounds_succ]
  go_wp2_with fail
  refine (HST.out).mono ?_
  rintro e w3 ⟨rfl, hp3, hf3⟩
  have HP3 := Aside0.mk hp3
  have HF3 := Aside0.mk (HF2.out.trans hf3)
  have HM3 := Aside0.mk (fr_map hf3 (by intro cs t fr he; cases he) HM2.out HP2.out.cells)
  have HI3 := Aside0.mk (fr_map hf3 (by intro cs t fr he; cases he) HI2.out HP2.out.cells)
  have hB3 : B ≤ w3.heap.size := by have := HF3.out.size; have := HBS.out; omega
  have hl3 : (xs ++ encHead 160 216 1 ++ encText key).length ≤ 1000600 := by
    have h1 := hlx
    have h2 := encHead_len 128 208 key.size
    unfold encText
    simp only [List.length_append, bytesOf_length] at h1 ⊢
    omega
  have HCALL := Aside0.mk (num_int i _ HP3.out (by omega) (by omega) hi0 (by omega))
  clear hp3 hf3 hrg hnx hen HST hB3 hl3 hlx
  go_wp2_with fail
  refine (HCALL.out).mono ?_
  rintro e w4 ⟨rfl, hp4, hf4⟩
  have HP4 := Aside0.mk hp4
  have HF4 := Aside0.mk (HF3.out.trans hf4)
  have hnx2 := fun ty => run_next_over (P := Try.prog) w4 ty w1.heap.size m key (.int .i64 i) (fr_map hf4 (by intro cs t fr he; cases he) HI3.out HP3.out.cells) (fr_map hf4 (by intro cs t fr he; cases he) HM3.out HP3.out.cells)
  clear hp4 hf4 HCALL
  go_wp2_with fail
  rw [rounds_succ]
  go_wp2_with fail
  go_end0
  exact ⟨rfl, HP4.out, HF4.out⟩

set_option maxHeartbeats 4000000 in
set_option maxRecDepth 100000 in
theorem pm_i64 {B bp : Nat} {xs : List Int} (m : Nat) (key : ByteArray) (w : World) (i : Int) (hi0 : -9223372036854775808 ≤ i) (hi1 : i < 9223372036854775808) (hm : w.heap[m]? = some (oneMap key (.int .i64 i))) (h : PB w B bp xs) (hB : B ≤ w.heap.size) (hl : xs.length ≤ 1000000) (hk : key.size ≤ 300) :
    Calls Try.prog 54 #[.pointer (some ⟨bp, 0, none⟩), .map (some m)] w fun e w' => e = .returned (.tuple #[]) ∧ PB w' B bp (xs ++ encHead 160 216 1 ++ encText key ++ encInt i) ∧ Fr B bp w w' := by
  have HH := Aside0.mk (pk_head 1 160 216 w h hB (by omega) (by omega) (by omega) (by omega) (by omega))
  have hm' : w.heap[m]? = some (.map #[{ key := .string key, val := .int .i64 i, born := 0 }] 1) := hm
  have hlen := fun ty => run_len_map (P := Try.prog) (w := w) 101 ty m _ 1 (by kernel_rfl) hm'
  have HM := Aside0.mk hm
  have HPB := Aside0.mk h.cells
  have HBS := Aside0.mk hB
  have HL := Aside0.mk hl
  clear hm h hB hl
  go_enter Try.func54, Try.ntmps54
  go_wp2_with fail
  refine (HH.out).mono ?_
  rintro e w1 ⟨rfl, hp, hf⟩
  have hm1 := fr_map hf (by intro cs t fr he; cases he) HM.out HPB.out
  have HP1 := Aside0.mk hp
  have HF1 := Aside0.mk hf
  have hrg := run_range_map (P := Try.prog) w1 101 9 2 m #[{ key := .string key, val := .int .i64 i, born := 0 }] 1 Try.underlying101 hm1
  have hit := heap_alloc_new w1 (.mapIter (some m) 1 #[] 1)
  have hit2 := heap_alloc_new w1 (.mapIter (some m) 1 #[0] 1)
  have hmlt : m < w1.heap.size := by
    rcases Nat.lt_or_ge m w1.heap.size with h | h
    · exact h
    · simp [Array.getElem?_eq_none h] at hm1
  have hma : ∀ o, (w1.alloc o).heap[m]? = some (oneMap key (.int .i64 i)) := fun o => (Below.heap_alloc w1 o _ hmlt).trans hm1
  have hnx := fun ty => (run_next_one (P := Try.prog) (w1.alloc (.mapIter (some m) 1 #[] 1)) ty w1.heap.size m key (.int .i64 i) hit (hma _)).trans (by rw [setBlock_alloc])
  have hen := run_entry_one (P := Try.prog) (w1.alloc (.mapIter (some m) 1 #[0] 1)) w1.heap.size m key (.int .i64 i) hit2 (hma _)
  have HM2 := Aside0.mk (hma (.mapIter (some m) 1 #[0] 1))
  have HI2 := Aside0.mk hit2
  clear hp hf HH hm' hm1 hma hit hit2 hmlt
  have HP2 := Aside0.mk (HP1.out.alloc (.mapIter (some m) 1 #[0] 1))
  have HF2 := Aside0.mk (HF1.out.alloc (.mapIter (some m) 1 #[0] 1))
  have hB2 : B ≤ (w1.alloc (.mapIter (some m) 1 #[0] 1)).heap.size := by have := HF2.out.size; have := HBS.out; omega
  have hlx : (xs ++ encHead 160 216 1).length ≤ 1000005 := by have := encHead_len 160 216 1; have := HL.out; rw [List.length_append]; omega
  have HST := Aside0.mk (pk_string key _ HP2.out hB2 (by omega) (by omega))
  clear hB2
  go_wp2_with fail
  refine wp_loop_rounds 2 ?_
  rw [rounds_succ]
  go_wp2_with fail
  refine (HST.out).mono ?_
  rintro e w3 ⟨rfl, hp3, hf3⟩
  have HP3 := Aside0.mk hp3
  have HF3 := Aside0.mk (HF2.out.trans hf3)
  have HM3 := Aside0.mk (fr_map hf3 (by intro cs t fr he; cases he) HM2.out HP2.out.cells)
  have HI3 := Aside0.mk (fr_map hf3 (by intro cs t fr he; cases he) HI2.out HP2.out.cells)
  have hB3 : B ≤ w3.heap.size := by have := HF3.out.size; have := HBS.out; omega
  have hl3 : (xs ++ encHead 160 216 1 ++ encText key).length ≤ 1000600 := by
    have h1 := hlx
    have h2 := encHead_len 128 208 key.size
    unfold encText
    simp only [List.length_append, bytesOf_length] at h1 ⊢
    omega
  have HCALL := Aside0.mk (pk_int i _ HP3.out (by omega) (by omega) hi0 hi1)
  clear hp3 hf3 hrg hnx hen HST hB3 hl3 hlx
  go_wp2_with fail
  refine (HCALL.out).mono ?_
  rintro e w4 ⟨rfl, hp4, hf4⟩
  have HP4 := Aside0.mk hp4
  have HF4 := Aside0.mk (HF3.out.trans hf4)
  have hnx2 := fun ty => run_next_over (P := Try.prog) w4 ty w1.heap.size m key (.int .i64 i) (fr_map hf4 (by intro cs t fr he; cases he) HI3.out HP3.out.cells) (fr_map hf4 (by intro cs t fr he; cases he) HM3.out HP3.out.cells)
  clear hp4 hf4 HCALL
  go_wp2_with fail
  rw [rounds_succ]
  go_wp2_with fail
  go_end0
  exact ⟨rfl, HP4.out, HF4.out⟩

set_option maxHeartbeats 4000000 in
set_option maxRecDepth 100000 in
theorem pm_f64 {B bp : Nat} {xs : List Int} (m : Nat) (key : ByteArray) (w : World) (i : Nat) (hi1 : i < 18446744073709551616) (hm : w.heap[m]? = some (oneMap key (.float .f64 i))) (h : PB w B bp xs) (hB : B ≤ w.heap.size) (hl : xs.length ≤ 1000000) (hk : key.size ≤ 300) :
    Calls Try.prog 55 #[.pointer (some ⟨bp, 0, none⟩), .map (some m)] w fun e w' => e = .returned (.tuple #[]) ∧ PB w' B bp (xs ++ encHead 160 216 1 ++ encText key ++ encFloat i) ∧ Fr B bp w w' := by
  have HH := Aside0.mk (pk_head 1 160 216 w h hB (by omega) (by omega) (by omega) (by omega) (by omega))
  have hm' : w.heap[m]? = some (.map #[{ key := .string key, val := .float .f64 i, born := 0 }] 1) := hm
  have hlen := fun ty => run_len_map (P := Try.prog) (w := w) 102 ty m _ 1 (by kernel_rfl) hm'
  have HM := Aside0.mk hm
  have HPB := Aside0.mk h.cells
  have HBS := Aside0.mk hB
  have HL := Aside0.mk hl
  clear hm h hB hl
  go_enter Try.func55, Try.ntmps55
  go_wp2_with fail
  refine (HH.out).mono ?_
  rintro e w1 ⟨rfl, hp, hf⟩
  have hm1 := fr_map hf (by intro cs t fr he; cases he) HM.out HPB.out
  have HP1 := Aside0.mk hp
  have HF1 := Aside0.mk hf
  have hrg := run_range_map (P := Try.prog) w1 102 9 96 m #[{ key := .string key, val := .float .f64 i, born := 0 }] 1 Try.underlying102 hm1
  have hit := heap_alloc_new w1 (.mapIter (some m) 1 #[] 1)
  have hit2 := heap_alloc_new w1 (.mapIter (some m) 1 #[0] 1)
  have hmlt : m < w1.heap.size := by
    rcases Nat.lt_or_ge m w1.heap.size with h | h
    · exact h
    · simp [Array.getElem?_eq_none h] at hm1
  have hma : ∀ o, (w1.alloc o).heap[m]? = some (oneMap key (.float .f64 i)) := fun o => (Below.heap_alloc w1 o _ hmlt).trans hm1
  have hnx := fun ty => (run_next_one (P := Try.prog) (w1.alloc (.mapIter (some m) 1 #[] 1)) ty w1.heap.size m key (.float .f64 i) hit (hma _)).trans (by rw [setBlock_alloc])
  have hen := run_entry_one (P := Try.prog) (w1.alloc (.mapIter (some m) 1 #[0] 1)) w1.heap.size m key (.float .f64 i) hit2 (hma _)
  have HM2 := Aside0.mk (hma (.mapIter (some m) 1 #[0] 1))
  have HI2 := Aside0.mk hit2
  clear hp hf HH hm' hm1 hma hit hit2 hmlt
  have HP2 := Aside0.mk (HP1.out.alloc (.mapIter (some m) 1 #[0] 1))
  have HF2 := Aside0.mk (HF1.out.alloc (.mapIter (some m) 1 #[0] 1))
  have hB2 : B ≤ (w1.alloc (.mapIter (some m) 1 #[0] 1)).heap.size := by have := HF2.out.size; have := HBS.out; omega
  have hlx : (xs ++ encHead 160 216 1).length ≤ 1000005 := by have := encHead_len 160 216 1; have := HL.out; rw [List.length_append]; omega
  have HST := Aside0.mk (pk_string key _ HP2.out hB2 (by omega) (by omega))
  clear hB2
  go_wp2_with fail
  refine wp_loop_rounds 2 ?_
  rw [rounds_succ]
  go_wp2_with fail
  refine (HST.out).mono ?_
  rintro e w3 ⟨rfl, hp3, hf3⟩
  have HP3 := Aside0.mk hp3
  have HF3 := Aside0.mk (HF2.out.trans hf3)
  have HM3 := Aside0.mk (fr_map hf3 (by intro cs t fr he; cases he) HM2.out HP2.out.cells)
  have HI3 := Aside0.mk (fr_map hf3 (by intro cs t fr he; cases he) HI2.out HP2.out.cells)
  have hB3 : B ≤ w3.heap.size := by have := HF3.out.size; have := HBS.out; omega
  have hl3 : (xs ++ encHead 160 216 1 ++ encText key).length ≤ 1000600 := by
    have h1 := hlx
    have h2 := encHead_len 128 208 key.size
    unfold encText
    simp only [List.length_append, bytesOf_length] at h1 ⊢
    omega
  have HCALL := Aside0.mk (pk_float i _ HP3.out (by omega) (by omega) hi1)
  clear hp3 hf3 hrg hnx hen HST hB3 hl3 hlx
  go_wp2_with fail
  refine (HCALL.out).mono ?_
  rintro e w4 ⟨rfl, hp4, hf4⟩
  have HP4 := Aside0.mk hp4
  have HF4 := Aside0.mk (HF3.out.trans hf4)
  have hnx2 := fun ty => run_next_over (P := Try.prog) w4 ty w1.heap.size m key (.float .f64 i) (fr_map hf4 (by intro cs t fr he; cases he) HI3.out HP3.out.cells) (fr_map hf4 (by intro cs t fr he; cases he) HM3.out HP3.out.cells)
  clear hp4 hf4 HCALL
  go_wp2_with fail
  rw [rounds_succ]
  go_wp2_with fail
  go_end0
  exact ⟨rfl, HP4.out, HF4.out⟩

set_option maxHeartbeats 4000000 in
set_option maxRecDepth 100000 in
theorem pm_str {B bp : Nat} {xs : List Int} (m : Nat) (key : ByteArray) (w : World) (i : ByteArray) (hi1 : i.size ≤ 300) (hm : w.heap[m]? = some (oneMap key (.string i))) (h : PB w B bp xs) (hB : B ≤ w.heap.size) (hl : xs.length ≤ 1000000) (hk : key.size ≤ 300) :
    Calls Try.prog 56 #[.pointer (some ⟨bp, 0, none⟩), .map (some m)] w fun e w' => e = .returned (.tuple #[]) ∧ PB w' B bp (xs ++ encHead 160 216 1 ++ encText key ++ encText i) ∧ Fr B bp w w' := by
  have HH := Aside0.mk (pk_head 1 160 216 w h hB (by omega) (by omega) (by omega) (by omega) (by omega))
  have hm' : w.heap[m]? = some (.map #[{ key := .string key, val := .string i, born := 0 }] 1) := hm
  have hlen := fun ty => run_len_map (P := Try.prog) (w := w) 103 ty m _ 1 (by kernel_rfl) hm'
  have HM := Aside0.mk hm
  have HPB := Aside0.mk h.cells
  have HBS := Aside0.mk hB
  have HL := Aside0.mk hl
  clear hm h hB hl
  go_enter Try.func56, Try.ntmps56
  go_wp2_with fail
  refine (HH.out).mono ?_
  rintro e w1 ⟨rfl, hp, hf⟩
  have hm1 := fr_map hf (by intro cs t fr he; cases he) HM.out HPB.out
  have HP1 := Aside0.mk hp
  have HF1 := Aside0.mk hf
  have hrg := run_range_map (P := Try.prog) w1 103 9 9 m #[{ key := .string key, val := .string i, born := 0 }] 1 Try.underlying103 hm1
  have hit := heap_alloc_new w1 (.mapIter (some m) 1 #[] 1)
  have hit2 := heap_alloc_new w1 (.mapIter (some m) 1 #[0] 1)
  have hmlt : m < w1.heap.size := by
    rcases Nat.lt_or_ge m w1.heap.size with h | h
    · exact h
    · simp [Array.getElem?_eq_none h] at hm1
  have hma : ∀ o, (w1.alloc o).heap[m]? = some (oneMap key (.string i)) := fun o => (Below.heap_alloc w1 o _ hmlt).trans hm1
  have hnx := fun ty => (run_next_one (P := Try.prog) (w1.alloc (.mapIter (some m) 1 #[] 1)) ty w1.heap.size m key (.string i) hit (hma _)).trans (by rw [setBlock_alloc])
  have hen := run_entry_one (P := Try.prog) (w1.alloc (.mapIter (some m) 1 #[0] 1)) w1.heap.size m key (.string i) hit2 (hma _)
  have HM2 := Aside0.mk (hma (.mapIter (some m) 1 #[0] 1))
  have HI2 := Aside0.mk hit2
  clear hp hf HH hm' hm1 hma hit hit2 hmlt
  have HP2 := Aside0.mk (HP1.out.alloc (.mapIter (some m) 1 #[0] 1))
  have HF2 := Aside0.mk (HF1.out.alloc (.mapIter (some m) 1 #[0] 1))
  have hB2 : B ≤ (w1.alloc (.mapIter (some m) 1 #[0] 1)).heap.size := by have := HF2.out.size; have := HBS.out; omega
  have hlx : (xs ++ encHead 160 216 1).length ≤ 1000005 := by have := encHead_len 160 216 1; have := HL.out; rw [List.length_append]; omega
  have HST := Aside0.mk (pk_string key _ HP2.out hB2 (by omega) (by omega))
  clear hB2
  go_wp2_with fail
  refine wp_loop_rounds 2 ?_
  rw [rounds_succ]
  go_wp2_with fail
  refine (HST.out).mono ?_
  rintro e w3 ⟨rfl, hp3, hf3⟩
  have HP3 := Aside0.mk hp3
  have HF3 := Aside0.mk (HF2.out.trans hf3)
  have HM3 := Aside0.mk (fr_map hf3 (by intro cs t fr he; cases he) HM2.out HP2.out.cells)
  have HI3 := Aside0.mk (fr_map hf3 (by intro cs t fr he; cases he) HI2.out HP2.out.cells)
  have hB3 : B ≤ w3.heap.size := by have := HF3.out.size; have := HBS.out; omega
  have hl3 : (xs ++ encHead 160 216 1 ++ encText key).length ≤ 1000600 := by
    have h1 := hlx
    have h2 := encHead_len 128 208 key.size
    unfold encText
    simp only [List.length_append, bytesOf_length] at h1 ⊢
    omega
  have HCALL := Aside0.mk (pk_string i _ HP3.out (by omega) (by omega) (by omega))
  clear hp3 hf3 hrg hnx hen HST hB3 hl3 hlx
  go_wp2_with fail
  refine (HCALL.out).mono ?_
  rintro e w4 ⟨rfl, hp4, hf4⟩
  have HP4 := Aside0.mk hp4
  have HF4 := Aside0.mk (HF3.out.trans hf4)
  have hnx2 := fun ty => run_next_over (P := Try.prog) w4 ty w1.heap.size m key (.string i) (fr_map hf4 (by intro cs t fr he; cases he) HI3.out HP3.out.cells) (fr_map hf4 (by intro cs t fr he; cases he) HM3.out HP3.out.cells)
  clear hp4 hf4 HCALL
  go_wp2_with fail
  rw [rounds_succ]
  go_wp2_with fail
  go_end0
  exact ⟨rfl, HP4.out, HF4.out⟩

set_option maxHeartbeats 4000000 in
set_option maxRecDepth 100000 in
theorem pm_bys {B bp : Nat} {xs : List Int} (m : Nat) (key : ByteArray) (w : World) (i : ByteArray) (bb c : Nat) (hi1 : i.size ≤ 300) (hrd : ReadsInt w .u8 (some ⟨bb, 0, none⟩) i.size (bytesOf i)) (hbb : bb < B ∧ bb ≠ bp) (hm : w.heap[m]? = some (oneMap key (.slice (some ⟨bb, 0, none⟩) i.size c))) (h : PB w B bp xs) (hB : B ≤ w.heap.size) (hl : xs.length ≤ 1000000) (hk : key.size ≤ 300) :
    Calls Try.prog 57 #[.pointer (some ⟨bp, 0, none⟩), .map (some m)] w fun e w' => e = .returned (.tuple #[]) ∧ PB w' B bp (xs ++ encHead 160 216 1 ++ encText key ++ (encByteHead i.size ++ bytesOf i)) ∧ Fr B bp w w' := by
  have HH := Aside0.mk (pk_head 1 160 216 w h hB (by omega) (by omega) (by omega) (by omega) (by omega))
  have hm' : w.heap[m]? = some (.map #[{ key := .string key, val := .slice (some ⟨bb, 0, none⟩) i.size c, born := 0 }] 1) := hm
  have hlen := fun ty => run_len_map (P := Try.prog) (w := w) 104 ty m _ 1 (by kernel_rfl) hm'
  have HM := Aside0.mk hm
  have HPB := Aside0.mk h.cells
  have HBS := Aside0.mk hB
  have HL := Aside0.mk hl
  have HRD := Aside0.mk hrd
  have HBB := Aside0.mk hbb
  clear hrd hbb
  clear hm h hB hl
  go_enter Try.func57, Try.ntmps57
  go_wp2_with fail
  refine (HH.out).mono ?_
  rintro e w1 ⟨rfl, hp, hf⟩
  have hm1 := fr_map hf (by intro cs t fr he; cases he) HM.out HPB.out
  have HP1 := Aside0.mk hp
  have HF1 := Aside0.mk hf
  have hrg := run_range_map (P := Try.prog) w1 104 9 69 m #[{ key := .string key, val := .slice (some ⟨bb, 0, none⟩) i.size c, born := 0 }] 1 Try.underlying104 hm1
  have hit := heap_alloc_new w1 (.mapIter (some m) 1 #[] 1)
  have hit2 := heap_alloc_new w1 (.mapIter (some m) 1 #[0] 1)
  have hmlt : m < w1.heap.size := by
    rcases Nat.lt_or_ge m w1.heap.size with h | h
    · exact h
    · simp [Array.getElem?_eq_none h] at hm1
  have hma : ∀ o, (w1.alloc o).heap[m]? = some (oneMap key (.slice (some ⟨bb, 0, none⟩) i.size c)) := fun o => (Below.heap_alloc w1 o _ hmlt).trans hm1
  have hnx := fun ty => (run_next_one (P := Try.prog) (w1.alloc (.mapIter (some m) 1 #[] 1)) ty w1.heap.size m key (.slice (some ⟨bb, 0, none⟩) i.size c) hit (hma _)).trans (by rw [setBlock_alloc])
  have hen := run_entry_one (P := Try.prog) (w1.alloc (.mapIter (some m) 1 #[0] 1)) w1.heap.size m key (.slice (some ⟨bb, 0, none⟩) i.size c) hit2 (hma _)
  have HM2 := Aside0.mk (hma (.mapIter (some m) 1 #[0] 1))
  have HI2 := Aside0.mk hit2
  clear hp hf HH hm' hm1 hma hit hit2 hmlt
  have HP2 := Aside0.mk (HP1.out.alloc (.mapIter (some m) 1 #[0] 1))
  have HF2 := Aside0.mk (HF1.out.alloc (.mapIter (some m) 1 #[0] 1))
  have hB2 : B ≤ (w1.alloc (.mapIter (some m) 1 #[0] 1)).heap.size := by have := HF2.out.size; have := HBS.out; omega
  have hlx : (xs ++ encHead 160 216 1).length ≤ 1000005 := by have := encHead_len 160 216 1; have := HL.out; rw [List.length_append]; omega
  have HST := Aside0.mk (pk_string key _ HP2.out hB2 (by omega) (by omega))
  clear hB2
  go_wp2_with fail
  refine wp_loop_rounds 2 ?_
  rw [rounds_succ]
  go_wp2_with fail
  refine (HST.out).mono ?_
  rintro e w3 ⟨rfl, hp3, hf3⟩
  have HP3 := Aside0.mk hp3
  have HF3 := Aside0.mk (HF2.out.trans hf3)
  have HM3 := Aside0.mk (fr_map hf3 (by intro cs t fr he; cases he) HM2.out HP2.out.cells)
  have HI3 := Aside0.mk (fr_map hf3 (by intro cs t fr he; cases he) HI2.out HP2.out.cells)
  have hB3 : B ≤ w3.heap.size := by have := HF3.out.size; have := HBS.out; omega
  have hl3 : (xs ++ encHead 160 216 1 ++ encText key).length ≤ 1000600 := by
    have h1 := hlx
    have h2 := encHead_len 128 208 key.size
    unfold encText
    simp only [List.length_append, bytesOf_length] at h1 ⊢
    omega
  have HRD3 := Aside0.mk (show ReadsInt w3 .u8 (some ⟨bb, 0, none⟩) i.size (bytesOf i) from fr_reads HF3.out HBB.out.2 HBB.out.1 HRD.out)
  have HAP3 := Aside0.mk (show Apart w3 bp (some ⟨bb, 0, none⟩) from pb_apart HP3.out HBB.out.1 HBB.out.2)
  have HCALL := Aside0.mk (pk_bytes (c := c) w3 HP3.out (by omega) (by omega) HRD3.out HAP3.out (by omega))
  clear hp3 hf3 hrg hnx hen HST hB3 hl3 hlx
  go_wp2_with fail
  refine (HCALL.out).mono ?_
  rintro e w4 ⟨rfl, hp4, hf4⟩
  have HP4 := Aside0.mk hp4
  have HF4 := Aside0.mk (HF3.out.trans hf4)
  have hnx2 := fun ty => run_next_over (P := Try.prog) w4 ty w1.heap.size m key (.slice (some ⟨bb, 0, none⟩) i.size c) (fr_map hf4 (by intro cs t fr he; cases he) HI3.out HP3.out.cells) (fr_map hf4 (by intro cs t fr he; cases he) HM3.out HP3.out.cells)
  clear hp4 hf4 HCALL
  go_wp2_with fail
  rw [rounds_succ]
  go_wp2_with fail
  go_end0
  exact ⟨rfl, HP4.out, HF4.out⟩
end Go.Proofs.Ytjnookhdiolhgaa
