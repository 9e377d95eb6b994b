/- The reader over a text: NewReader, fill, Peek, Buffered. (seat r3.ZD) impl.PeekKind. (seat r3.ZD) -/
import Derived.Test.YtkogipaaioibaaaGreatDoorPk
import Derived.Deep.QuietTactic
import Derived.BigQuiet
import Derived.Lib.Hide
import Derived.Laws.IdiomCopy
import Derived.Test.YtkogipaaioibaaaGreatDoorCore
import Derived.Test.YtkogipaaioibaaaGreatDoorWb
namespace Go.Proofs.YtkogipaaioibaaaGreatDoor
set_option linter.unusedVariables false
set_option linter.unusedSimpArgs false
open Go.RowKit Go.Proofs.YtkogipaaioibaaaGreatDoorW.PrintWords Go.Proofs.YtkogipaaioibaaaGreatDoorW.PrintLast Go.Proofs.YtkogipaaioibaaaGreatDoorW.PrintMore
attribute [local go_sem] max2_int min2_int max_two min_two max_three min_three max_four min_four
open PAll (info5)
/-- A reader: what is left of its bytes. -/
structure RB (w : World) (rb src off c : Nat) (xs : List Int) (bf : Int) : Prop where
  box : w.heap[rb]? = some (.cells #[.slice (some ⟨src, off, none⟩) xs.length c, .int .i64 bf, .int .i64 32768] 82 (0, 0))
  le : xs.length ≤ c
  big : xs.length ≤ 1000000000
  row : ReadsInt w .u8 (some ⟨src, off, none⟩) xs.length xs
  bf0 : 0 ≤ bf
  bf1 : bf ≤ xs.length
  far : src ≠ rb
  lt : src < w.heap.size
theorem reads_block {w w' : World} {b o n : Nat} {xs : List Int} (h : ReadsInt w .u8 (some ⟨b, o, none⟩) n xs) (hk : w'.heap[b]? = w.heap[b]?) : ReadsInt w' .u8 (some ⟨b, o, none⟩) n xs := by
  refine ⟨h.1, h.2.1, fun hp => ?_⟩
  obtain ⟨ad, he, hc⟩ := h.2.2 hp
  injection he with he
  subst he
  refine ⟨_, rfl, fun j hj => ?_⟩
  have h1 := hc j hj
  have e : ((⟨b, o, none⟩ : Addr).add j).block = b := by unfold Addr.add; split <;> rfl
  unfold World.cell? at h1 ⊢
  rw [e] at h1 ⊢
  rw [hk]
  exact h1
theorem reads_drop {w : World} {b o n k : Nat} {xs : List Int} (h : ReadsInt w .u8 (some ⟨b, o, none⟩) n xs) (hk : k ≤ n) : ReadsInt w .u8 (some ⟨b, o + k, none⟩) (n - k) (xs.drop k) := by
  refine ⟨by rw [List.length_drop, h.1], by have := h.2.1; omega, fun hp => ⟨_, rfl, fun j hj => ?_⟩⟩
  obtain ⟨ad, he, hc⟩ := h.2.2 (by omega)
  injection he with he
  subst he
  have h1 := hc (k + j) (by omega)
  have e : (⟨b, o, none⟩ : Addr).add (k + j) = (⟨b, o + k, none⟩ : Addr).add j := by
    unfold Addr.add
    split <;> split <;> simp_all <;> omega
  rw [e] at h1
  rw [h1]
  simp [List.getD_eq_getElem?_getD, List.getElem?_drop]
theorem RB.keep {w w' : World} {rb src off c : Nat} {xs : List Int} {bf : Int} (h : RB w rb src off c xs bf) (h1 : w'.heap[rb]? = w.heap[rb]?) (h2 : w'.heap[src]? = w.heap[src]?) (hs : w.heap.size ≤ w'.heap.size) : RB w' rb src off c xs bf :=
  ⟨h1.trans h.box, h.le, h.big, reads_block h.row h2, h.bf0, h.bf1, h.far, Nat.lt_of_lt_of_le h.lt hs⟩
theorem RB.below {w w' : World} {rb src off c : Nat} {xs : List Int} {bf : Int} (h : RB w rb src off c xs bf) (hb : Below w.heap.size w w') : RB w' rb src off c xs bf :=
  h.keep (hb.block _ (blk_lt h.box)) (hb.block _ h.lt) hb.size

theorem RB.setbf {w : World} {rb src off c : Nat} {xs : List Int} {bf b : Int} (h : RB w rb src off c xs bf) (h0 : 0 ≤ b) (h1 : b ≤ xs.length) : RB (w.setCell ⟨rb, 1, none⟩ (.int .i64 b)) rb src off c xs b :=
  ⟨blk_put h.box 1 _ rfl, h.le, h.big, reads_block h.row (Below.heap_setCell w ⟨rb, 1, none⟩ _ src h.far), h0, h1, h.far, by have := h.lt; simpa [World.setCell] using this⟩

theorem grown_below' {w w' : World} (h : Below w.heap.size w w') (row : Option Nat) : w.grownBy w' row := ⟨h.os, h.tape, h.output, h.size, fun k hk _ => h.block k hk⟩
set_option maxHeartbeats 2000000 in
set_option maxRecDepth 100000 in
theorem fill_any {rb src off c : Nat} {xs : List Int} {bf : Int} (w : World) (h : RB w rb src off c xs bf) (hb : bf < xs.length) (hz : xs.length ≤ 32768) :
    Calls Tryz.prog 46 #[.pointer (some ⟨rb, 0, none⟩)] w fun e w' => e = .returned (.bool true) ∧ RB w' rb src off c xs xs.length ∧ w.grownBy w' (some rb) := by
  have c0 : w.cell? ⟨rb, 0, none⟩ = some (.slice (some ⟨src, off, none⟩) xs.length c) := blk_cell h.box 0
  have c1 : w.cell? ⟨rb, 1, none⟩ = some (.int .i64 bf) := blk_cell h.box 1
  obtain ⟨sz, hsz⟩ : ∃ sz : Int, sz = 32768 := ⟨_, rfl⟩
  have c2 : w.cell? ⟨rb, 2, none⟩ = some (.int .i64 sz) := by rw [hsz]; exact blk_cell h.box 2
  have f1 : w.frozen? ⟨rb, 1, none⟩ = false := blk_frozen h.box 1
  have HH := Aside0.mk h
  have hbg : (xs.length : Int) ≤ sz := by omega
  have he : ¬ (xs.length : Int) = bf := by omega
  clear h hb hz hsz
  go_enter Tryz.func46, Tryz.ntmps46
  go_wp2_with fail
  go_quiet (fail)
  all_goals go_wp2_with fail
  all_goals go_region
  all_goals go_wp2_with fail
  all_goals go_ret
  all_goals
    first
      | exact ⟨rfl, (HH.out.below (pw_below_drewN (Below.refl _ _) _)).setbf (by omega) (by omega), grown_set (grown_below' (pw_below_drewN (Below.refl _ _) _) _) 1 _⟩
      | (have hmin : sz = xs.length := by omega
         rw [hmin]
         exact ⟨rfl, (HH.out.below (pw_below_drewN (Below.refl _ _) _)).setbf (by omega) (by omega), grown_set (grown_below' (pw_below_drewN (Below.refl _ _) _) _) 1 _⟩)
/-- What Peek answers where there is enough. -/
def PeR (rb src off c k : Nat) (xs : List Int) (bf : Int) (w : World) (e : Ending) (w' : World) : Prop :=
  ∃ bf' : Int, e = .returned (.tuple #[.slice (some ⟨src, off, none⟩) k c, .nilIface]) ∧ RB w' rb src off c xs bf' ∧ (k : Int) ≤ bf' ∧ w.grownBy w' (some rb) ∧ (bf' = bf ∨ bf' = (xs.length : Int))
set_option maxHeartbeats 4000000 in
set_option maxRecDepth 100000 in
theorem peek_any {rb src off c : Nat} {xs : List Int} {bf : Int} (k : Nat) (w : World) (h : RB w rb src off c xs bf) (hk : k ≤ xs.length) (hz : xs.length ≤ 32768) :
    Calls Tryz.prog 29 #[.pointer (some ⟨rb, 0, none⟩), .int .i64 k] w fun e w' => PeR rb src off c k xs bf w e w' := by
  have c0 : w.cell? ⟨rb, 0, none⟩ = some (.slice (some ⟨src, off, none⟩) xs.length c) := blk_cell h.box 0
  have c1 : w.cell? ⟨rb, 1, none⟩ = some (.int .i64 bf) := blk_cell h.box 1
  obtain ⟨sz, hsz⟩ : ∃ sz : Int, sz = 32768 := ⟨_, rfl⟩
  have c2 : w.cell? ⟨rb, 2, none⟩ = some (.int .i64 sz) := by rw [hsz]; exact blk_cell h.box 2
  have HH := Aside0.mk h
  have hk2 : (k : Int) ≤ sz := by omega
  have HSZ := Aside0.mk hsz
  have hkc : k ≤ c := by have := h.le; omega
  by_cases hb : (k : Int) ≤ bf
  · have hb2 : decide (bf < (k : Int)) = false := decide_eq_false (by omega)
    have hb3 : ¬ bf < (k : Int) := by omega
    clear h hsz
    go_enter Tryz.func29, Tryz.ntmps29
    go_wp2_with fail
    refine wp_loop_rounds 1 ?_
    rw [rounds_succ]
    go_wp2_with fail
    go_quiet (fail)
    all_goals go_wp2_with fail
    all_goals go_ret2
    all_goals exact ⟨bf, rfl, HH.out.below (pw_below_drewN (Below.refl _ _) _), hb, grown_below' (pw_below_drewN (Below.refl _ _) _) _, .inl rfl⟩
  · have hb2 : decide (bf < (k : Int)) = true := decide_eq_true (by omega)
    have hb3 : bf < (k : Int) := by omega
    have hb4 : bf < sz := by omega
    have hb5 : decide (bf < sz) = true := decide_eq_true (by omega)
    have HF := Aside0.mk (fun W (h : RB W rb src off c xs bf) => fill_any W h (by omega) hz)
    have hxl : decide ((xs.length : Int) < (k : Int)) = false := decide_eq_false (by omega)
    have hxm : ¬ (xs.length : Int) < (k : Int) := by omega
    have hxn : decide (xs.length < k) = false := decide_eq_false (by omega)
    have hxk : (k : Int) ≤ (xs.length : Int) := by omega
    clear h hz hsz
    go_enter Tryz.func29, Tryz.ntmps29
    go_wp2_with fail
    refine wp_loop_rounds 2 ?_
    rw [rounds_succ]
    go_wp2_with fail
    go_quiet (fail)
    go_wp2_with fail
    refine (HF.out _ (HH.out.below (pw_below_drewN (Below.refl _ _) _))).mono ?_
    rintro e w2 ⟨rfl, h2, hg⟩
    have d0 : w2.cell? ⟨rb, 0, none⟩ = some (.slice (some ⟨src, off, none⟩) xs.length c) := blk_cell h2.box 0
    have d1 : w2.cell? ⟨rb, 1, none⟩ = some (.int .i64 xs.length) := blk_cell h2.box 1
    have d2 : w2.cell? ⟨rb, 2, none⟩ = some (.int .i64 sz) := by rw [HSZ.out]; exact blk_cell h2.box 2
    have H2 := Aside0.mk h2
    have HG := Aside0.mk (grown_trans' (grown_below' (pw_below_drewN (Below.refl w.heap.size w) _) (some rb)) hg)
    clear h2 hg c0 c1 c2 hb2 hb3 hb4 hb5 hb
    go_wp2_with fail
    rw [rounds_succ]
    go_wp2_with fail
    go_quiet (fail)
    all_goals go_wp2_with fail
    all_goals go_ret2
    all_goals exact ⟨xs.length, rfl, H2.out.below (pw_below_drewN (Below.refl _ _) _), hxk, grown_trans' HG.out (grown_below' (pw_below_drewN (Below.refl _ _) _) _), .inr rfl⟩
theorem newReaderSize_any (A : Option Addr) (n c : Nat) (w : World) : Calls Tryz.prog 28 #[.slice A n c, .int .i64 32768] w fun e w' => e = .returned (.pointer (some ⟨w.heap.size, 0, none⟩)) ∧ w' = w.alloc (.cells #[.slice A n c, .int .i64 0, .int .i64 32768] 82) := by
  go_enter Tryz.func28, Tryz.ntmps28
  go_wp2_with fail
  go_ret
  exact ⟨rfl, rfl⟩
theorem newReader_any (A : Option Addr) (n c : Nat) (w : World) : Calls Tryz.prog 17 #[.slice A n c] w fun e w' => e = .returned (.pointer (some ⟨w.heap.size + 1, 0, none⟩)) ∧ w' = (w.alloc (.cells #[.slice A n c, .int .i64 0, .int .i64 32768] 82)).alloc (.cells #[.pointer (some ⟨w.heap.size, 0, none⟩)] 63) := by
  go_enter Tryz.func17, Tryz.ntmps17
  go_wp2_with fail
  refine (newReaderSize_any A n c _).mono ?_
  rintro e w1 ⟨rfl, rfl⟩
  go_wp2_with fail
  go_ret
  exact ⟨by simp, rfl⟩
/-- The world behind the bytes, their source and its reader. -/
def rdW (w : World) (s : ByteArray) : World := ((Lib.bytesWorld w 5 s).alloc (.cells #[.slice (some ⟨w.heap.size, 0, none⟩) s.size (grownCap w s.size 0 5), .int .i64 0, .int .i64 32768] 82)).alloc (.cells #[.pointer (some ⟨w.heap.size + 1, 0, none⟩)] 63)
theorem rdW_below (w : World) (s : ByteArray) : Below w.heap.size w (rdW w s) := below_alloc (below_alloc (bytes_below (Below.refl w.heap.size w) (Nat.le_refl _) 5 s) _) _
theorem rdW_rb (w : World) (s : ByteArray) (hs : s.size ≤ 1000000000) : RB (rdW w s) (w.heap.size + 1) w.heap.size 0 (grownCap w s.size 0 5) (bytesOf s) 0 := by
  have hl := bytesOf_length s
  have hz := Lib.bytesWorld_size w 5 s
  have hn := heap_alloc_new (Lib.bytesWorld w 5 s) (.cells #[.slice (some ⟨w.heap.size, 0, none⟩) s.size (grownCap w s.size 0 5), .int .i64 0, .int .i64 32768] 82)
  rw [hz] at hn
  refine ⟨?_, by rw [hl]; exact grownCap_ge _ _ _ _, by omega, ?_, by omega, by omega, by omega, by unfold rdW; rw [World.size_alloc, World.size_alloc, hz]; omega⟩
  · rw [hl]
    exact (Below.heap_alloc _ _ _ (by rw [World.size_alloc, hz]; omega)).trans hn
  · rw [hl]
    exact reads_block (reads_block (bytes_reads w 5 s (by omega)) (Below.heap_alloc _ _ _ (by omega))) (Below.heap_alloc _ _ _ (by rw [World.size_alloc, hz]; omega))
theorem rdW_pr (w : World) (s : ByteArray) : (rdW w s).heap[w.heap.size + 2]? = some (.cells #[.pointer (some ⟨w.heap.size + 1, 0, none⟩)] 63 (0, 0)) := by
  have hz := Lib.bytesWorld_size w 5 s
  have hn := heap_alloc_new ((Lib.bytesWorld w 5 s).alloc (.cells #[.slice (some ⟨w.heap.size, 0, none⟩) s.size (grownCap w s.size 0 5), .int .i64 0, .int .i64 32768] 82)) (.cells #[.pointer (some ⟨w.heap.size + 1, 0, none⟩)] 63)
  rw [World.size_alloc, hz] at hn
  exact hn
end Go.Proofs.YtkogipaaioibaaaGreatDoor

namespace Go.Proofs.YtkogipaaioibaaaGreatDoor
set_option linter.unusedVariables false
set_option linter.unusedSimpArgs false
open Go.RowKit Go.Proofs.YtkogipaaioibaaaGreatDoorW.PrintWords Go.Proofs.YtkogipaaioibaaaGreatDoorW.PrintLast Go.Proofs.YtkogipaaioibaaaGreatDoorW.PrintMore
attribute [local go_sem] max2_int min2_int max_two min_two max_three min_three max_four min_four
theorem RB.at {w : World} {rb src c : Nat} {xs : List Int} {bf : Int} (h : RB w rb src 0 c xs bf) (j : Nat) (hj : j < xs.length) : w.cell? ⟨src, j, none⟩ = some (.int .u8 (xs.getD j 0)) := by
  obtain ⟨ad, he, hc⟩ := h.row.2.2 (by omega)
  injection he with he
  subst he
  have h1 := hc j hj
  rwa [show (⟨src, 0, none⟩ : Addr).add j = ⟨src, j, none⟩ by unfold Addr.add; split <;> simp_all] at h1
set_option maxHeartbeats 2000000 in
set_option maxRecDepth 100000 in
theorem peekType_any {pr rb src c : Nat} {xs r : List Int} {bf x : Int} (hx : xs = x :: r) (hne : (x == 124) = false) (w : World) (hp : w.heap[pr]? = some (.cells #[.pointer (some ⟨rb, 0, none⟩)] 63 (0, 0))) (h : RB w rb src 0 c xs bf) (hz : xs.length ≤ 32768) :
    Calls Tryz.prog 25 #[.pointer (some ⟨pr, 0, none⟩)] w fun e w' => e = .returned (.tuple #[.int .u8 x, .nilIface]) ∧ w.grownBy w' (some rb) := by
  have p0 : w.cell? ⟨pr, 0, none⟩ = some (.pointer (some ⟨rb, 0, none⟩)) := blk_cell hp 0
  have HP := Lib.hid (peek_any 1 w h (by rw [hx]; simp) hz)
  have HX := Lib.hid hx
  clear h hz hp hx
  go_enter Tryz.func25, Tryz.ntmps25
  go_wp2_with fail
  refine HP.out.mono ?_
  rintro e w1 ⟨bf', rfl, h1, hk, hg, -⟩
  have c0 : w1.cell? ⟨src, 0, none⟩ = some (.int .u8 x) := by
    have := h1.at 0 (by rw [HX.out]; simp)
    rw [HX.out] at this
    exact this
  have HG := Lib.hid hg
  clear h1 hg HP
  go_wp2_with fail
  go_ret2
  exact ⟨rfl, HG.out⟩
def NormalOnly (K : Act → World → Prop) : Exit → Act → World → Prop := fun e a w => match e with
  | .normal => K a w
  | _ => False
theorem wp_only {P : Program} {c : Code} {Q : Exit → Act → World → Prop} {a : Act} {w : World} (h : c.wp P (NormalOnly (Q .normal)) a w) : c.wp P Q a w :=
  Code.wp_mono (fun e a w h => by cases e <;> first | exact h | exact h.elim) h
theorem idleK (a b : Value) (w : World) :
    CallsD Tryz.prog 24 #[a, b] .returning w fun e u' w' => e = .returned (.tuple #[]) ∧ u' = .returning ∧ w' = w := by
  refine callsD_of_wpS Tryz.func24 rfl fun c₀ cs hu => ?_
  apply wpS_seq
  apply wpS_region
  simp [wpOpsS, go_sem, recoverD, hu, Tryz.ntmps24, Exit.thenS]
  refine wpS_cond (t := false) (by simp [Act.eval, Array.replicate]) ?_
  simp only [Bool.false_eq_true, if_false]
  refine wpS_of_wp (wp_skip ?_)
  cases c₀
  simp_all [bodyPostS, results, Tryz.results24]
theorem resK (tmps : Array Value) (w : World) (g g1 : Nat) (x y : Int) (h2 : tmps.getD 2 undef = .pointer (some ⟨g, 0, none⟩)) (h3 : tmps.getD 3 undef = .pointer (some ⟨g1, 0, none⟩))
    (hg : w.cell? ⟨g, 0, none⟩ = some (.int .i64 x)) (hx : w.cell? ⟨g1, 0, none⟩ = some (.int .i64 y)) :
    (results Tryz.f14 tmps).run Tryz.prog w = .ok (.tuple #[.int .i64 x, .int .i64 y]) w := by
  have h2' : tmps[2]?.getD undef = .pointer (some ⟨g, 0, none⟩) := by simpa using h2
  have h3' : tmps[3]?.getD undef = .pointer (some ⟨g1, 0, none⟩) := by simpa using h3
  simp [results, Tryz.results14, h2', h3', asAddr, go_sem, hg, hx]
theorem newReader_at (w : World) (s : ByteArray) : Calls Tryz.prog 17 #[.slice (some ⟨w.heap.size, 0, none⟩) s.size (grownCap w s.size 0 5)] (Lib.bytesWorld w 5 s) fun e w' => e = .returned (.pointer (some ⟨w.heap.size + 2, 0, none⟩)) ∧ w' = rdW w s := by
  refine (newReader_any _ _ _ _).mono ?_
  rintro e w' ⟨rfl, rfl⟩
  have hz := Lib.bytesWorld_size w 5 s
  unfold rdW
  rw [hz]
  exact ⟨rfl, rfl⟩
/-- The world behind PeekKind's two results' cells. -/
def kW (w : World) : World := (w.alloc (.cells #[.int .i64 0] 3)).alloc (.cells #[.int .i64 0] 3)
set_option maxHeartbeats 4000000 in
set_option maxRecDepth 100000 in
theorem peekKind_any (s : ByteArray) (x : Int) (r : List Int) (hx : bytesOf s = x :: r) (hne : (x == 124) = false) (hr0 : 0 ≤ x) (hr1 : x < 256) (hs : s.size ≤ 32768) (w : World) :
    Calls Tryz.prog 14 #[.string s] w fun e w' => e = .returned (.tuple #[.int .i64 x, .int .i64 0]) ∧ Below w.heap.size w w' := by
  have hbs := fun w => print_bytes (P := Tryz.prog) 9 42 5 Tryz.underlying9 Tryz.underlying42 Tryz.underlying5 s w
  have hks : (kW w).heap.size = w.heap.size + 1 + 1 := by unfold kW; rw [World.size_alloc, World.size_alloc]
  have hf := (peekType_any hx hne (rdW (kW w) s) (rdW_pr _ s) (rdW_rb _ s (by omega)) (by rw [bytesOf_length]; exact hs))
  have hnr := newReader_at (kW w) s
  have hbw := rdW_below (kW w) s
  have q0 : (kW w).heap[w.heap.size]? = some (.cells #[.int .i64 0] 3 (0, 0)) := (Below.heap_alloc _ _ _ (by rw [World.size_alloc]; omega)).trans (heap_alloc_new w _)
  have q1 : (kW w).heap[w.heap.size + 1]? = some (.cells #[.int .i64 0] 3 (0, 0)) := by
    have h := heap_alloc_new (w.alloc (.cells #[.int .i64 0] 3)) (.cells #[.int .i64 0] 3)
    rw [World.size_alloc] at h
    exact h
  rw [hks] at hnr hf hbw
  have HKS := Lib.hid hks
  have HNR := Lib.hid hnr
  have HF := Lib.hid hf
  have HBW := Lib.hid hbw
  have HQ := Lib.hid (And.intro q0 q1)
  have hu8 : IntKind.u8.wrap x = x := by rw [IntKind.wrap_u8]; omega
  clear hx hne hs hks q0 q1 hnr hf hbw
  go_enter_defers Tryz.func14, Tryz.ntmps14
  go_wp2_with fail
  refine HNR.out.mono ?_
  rintro e w1 ⟨rfl, rfl⟩
  clear hbs
  go_wp2_with fail
  refine HF.out.mono ?_
  rintro e w2 ⟨rfl, hg⟩
  have hks := HKS.out
  have y0 : w2.heap[w.heap.size]? = some (.cells #[.int .i64 0] 3 (0, 0)) := (hg.block _ (by have := HBW.out.size; omega) (by intro e; injection e with e; omega)).trans ((HBW.out.block _ (by omega)).trans HQ.out.1)
  have y1 : w2.heap[w.heap.size + 1]? = some (.cells #[.int .i64 0] 3 (0, 0)) := (hg.block _ (by have := HBW.out.size; omega) (by intro e; injection e with e; omega)).trans ((HBW.out.block _ (by omega)).trans HQ.out.2)
  have c0 : w2.cell? ⟨w.heap.size, 0, none⟩ = some (.int .i64 0) := blk_cell y0 0
  have c1 : w2.cell? ⟨w.heap.size + 1, 0, none⟩ = some (.int .i64 0) := blk_cell y1 0
  have f0 := blk_frozen y0 0
  have f1 := blk_frozen y1 0
  have l0 := blk_lt y0
  have l1 := blk_lt y1
  have hb0 : Below w.heap.size w (kW w) := below_alloc (below_alloc (Below.refl _ _) _) _
  have hb1 := hb0.trans ((HBW.out).mono (by omega))
  have hb2 := hb1.grown hg hb1.size (by rintro q hq; injection hq with hq; omega)
  have HEND : Hid (∀ a b : Int, ((w2.setCell ⟨w.heap.size, 0, none⟩ (.int .i64 a)).setCell ⟨w.heap.size + 1, 0, none⟩ (.int .i64 b)).cell? ⟨w.heap.size, 0, none⟩ = some (.int .i64 a) ∧ ((w2.setCell ⟨w.heap.size, 0, none⟩ (.int .i64 a)).setCell ⟨w.heap.size + 1, 0, none⟩ (.int .i64 b)).cell? ⟨w.heap.size + 1, 0, none⟩ = some (.int .i64 b) ∧ Below w.heap.size w ((w2.setCell ⟨w.heap.size, 0, none⟩ (.int .i64 a)).setCell ⟨w.heap.size + 1, 0, none⟩ (.int .i64 b))) := Lib.hid fun a b => by
    have z0 := blk_set y0 0 (.int .i64 a)
    have z1 := blk_far y1 (p := ⟨w.heap.size, 0, none⟩) (by show w.heap.size + 1 ≠ w.heap.size; omega) (.int .i64 a)
    have z2 := blk_set z1 0 (.int .i64 b)
    have z3 := blk_far z0 (p := ⟨w.heap.size + 1, 0, none⟩) (by show w.heap.size ≠ w.heap.size + 1; omega) (.int .i64 b)
    exact ⟨blk_cell z3 0, blk_cell z2 0, below_set (below_set hb2 (Nat.le_refl _)) (Nat.le_succ _)⟩
  clear hks hg y0 y1 hb0 hb1 hb2 HF HQ HBW
  go_wp2
  refine leaves_cons (f := 24) (args := #[.pointer (some ⟨w.heap.size, 0, none⟩), .pointer (some ⟨w.heap.size + 1, 0, none⟩)]) (by simp) (by simp [go_sem]) ?_
  refine (idleK _ _ _).mono ?_
  rintro e u' w'' ⟨rfl, rfl, rfl⟩
  exact ⟨_, resK _ _ w.heap.size (w.heap.size + 1) x 0 rfl rfl (HEND.out x 0).1 (HEND.out x 0).2.1, rfl, (HEND.out x 0).2.2⟩
end Go.Proofs.YtkogipaaioibaaaGreatDoor
