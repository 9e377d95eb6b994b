/- The reader over a text: NewReader, fill, Peek, Buffered. (seat r3.ZD) impl.PeekKind. (seat r3.ZD) Replies that came in, as data: every argument that can be read as a Reply is one, with its rows in memory. (seat r3.ZD) The laid variables of the three Resp rows: a world that meets them; the tables that a walk needs. (seat r3.ZD) FnRespPeek: the walk. (seat r3.ZD) -/
import Derived.Test.YtkogipaaioibaaaGreatDoorPk
import Derived.Deep.QuietTactic
import Derived.BigQuiet
import Derived.Lib.Hide
import Derived.Laws.IdiomCopy
import Derived.Test.YtkogipaaioibaaaGreatDoorCore
import Derived.Test.YtkogipaaioibaaaGreatDoorWb
import Derived.Test.YtkogipaaioibaaaGreatDoorWa
import Derived.ProofKit
import Derived.Deep.Slices
import Derived.Deep.Fields
import Derived.ChangeSame
import Derived.SliceStrings
import Derived.OpenShut
import Derived.Test.YtkogipaaioibaaaGreatDoorRows
import Derived.Test.YtkogipaaioibaaaGreatDoorFa
import Derived.Lay
import Derived.MakeChecks
import Derived.LaidHandle
import Derived.LaidLaws
import Derived.Stop.LaidErr
import Derived.Lib.LaidTab
import Derived.ChangeArms
import Derived.Handed
import Derived.SizedLaws
import Derived.Test.YtkogipaaioibaaaGreatDoorAlive
import Derived.Test.YtkogipaaioibaaaGreatDoorPlawszzFits5
import Derived.Test.YtkogipaaioibaaaGreatDoorWc
namespace Go.Proofs.YtkogipaaioibaaaGreatDoor
set_option linter.unusedVariables false
set_option linter.unusedSimpArgs false
open Go.RowKit Go.Proofs.YtkogipaaioibaaaGreatDoorW.PrintWords Go.Proofs.YtkogipaaioibaaaGreatDoorW.PrintLast Go.Proofs.YtkogipaaioibaaaGreatDoorW.PrintMore
attribute [local go_sem] max2_int min2_int max_two min_two max_three min_three max_four min_four
open PAll (info5)
/-- A reader: what is left of its bytes. -/
structure RB (w : World) (rb src off c : Nat) (xs : List Int) (bf : Int) : Prop where
  box : w.heap[rb]? = some (.cells #[.slice (some ⟨src, off, none⟩) xs.length c, .int .i64 bf, .int .i64 32768] 82 (0, 0))
  le : xs.length ≤ c
  big : xs.length ≤ 1000000000
  row : ReadsInt w .u8 (some ⟨src, off, none⟩) xs.length xs
  bf0 : 0 ≤ bf
  bf1 : bf ≤ xs.length
  far : src ≠ rb
  lt : src < w.heap.size
theorem reads_block {w w' : World} {b o n : Nat} {xs : List Int} (h : ReadsInt w .u8 (some ⟨b, o, none⟩) n xs) (hk : w'.heap[b]? = w.heap[b]?) : ReadsInt w' .u8 (some ⟨b, o, none⟩) n xs := by
  refine ⟨h.1, h.2.1, fun hp => ?_⟩
  obtain ⟨ad, he, hc⟩ := h.2.2 hp
  injection he with he
  subst he
  refine ⟨_, rfl, fun j hj => ?_⟩
  have h1 := hc j hj
  have e : ((⟨b, o, none⟩ : Addr).add j).block = b := by unfold Addr.add; split <;> rfl
  unfold World.cell? at h1 ⊢
  rw [e] at h1 ⊢
  rw [hk]
  exact h1
theorem reads_drop {w : World} {b o n k : Nat} {xs : List Int} (h : ReadsInt w .u8 (some ⟨b, o, none⟩) n xs) (hk : k ≤ n) : ReadsInt w .u8 (some ⟨b, o + k, none⟩) (n - k) (xs.drop k) := by
  refine ⟨by rw [List.length_drop, h.1], by have := h.2.1; omega, fun hp => ⟨_, rfl, fun j hj => ?_⟩⟩
  obtain ⟨ad, he, hc⟩ := h.2.2 (by omega)
  injection he with he
  subst he
  have h1 := hc (k + j) (by omega)
  have e : (⟨b, o, none⟩ : Addr).add (k + j) = (⟨b, o + k, none⟩ : Addr).add j := by
    unfold Addr.add
    split <;> split <;> simp_all <;> omega
  rw [e] at h1
  rw [h1]
  simp [List.getD_eq_getElem?_getD, List.getElem?_drop]
theorem RB.keep {w w' : World} {rb src off c : Nat} {xs : List Int} {bf : Int} (h : RB w rb src off c xs bf) (h1 : w'.heap[rb]? = w.heap[rb]?) (h2 : w'.heap[src]? = w.heap[src]?) (hs : w.heap.size ≤ w'.heap.size) : RB w' rb src off c xs bf :=
  ⟨h1.trans h.box, h.le, h.big, reads_block h.row h2, h.bf0, h.bf1, h.far, Nat.lt_of_lt_of_le h.lt hs⟩
theorem RB.below {w w' : World} {rb src off c : Nat} {xs : List Int} {bf : Int} (h : RB w rb src off c xs bf) (hb : Below w.heap.size w w') : RB w' rb src off c xs bf :=
  h.keep (hb.block _ (blk_lt h.box)) (hb.block _ h.lt) hb.size

theorem RB.setbf {w : World} {rb src off c : Nat} {xs : List Int} {bf b : Int} (h : RB w rb src off c xs bf) (h0 : 0 ≤ b) (h1 : b ≤ xs.length) : RB (w.setCell ⟨rb, 1, none⟩ (.int .i64 b)) rb src off c xs b :=
  ⟨blk_put h.box 1 _ rfl, h.le, h.big, reads_block h.row (Below.heap_setCell w ⟨rb, 1, none⟩ _ src h.far), h0, h1, h.far, by have := h.lt; simpa [World.setCell] using this⟩

theorem grown_below' {w w' : World} (h : Below w.heap.size w w') (row : Option Nat) : w.grownBy w' row := ⟨h.os, h.tape, h.output, h.size, fun k hk _ => h.block k hk⟩
set_option maxHeartbeats 2000000 in
set_option maxRecDepth 100000 in
theorem fill_any {rb src off c : Nat} {xs : List Int} {bf : Int} (w : World) (h : RB w rb src off c xs bf) (hb : bf < xs.length) (hz : xs.length ≤ 32768) :
    Calls Tryz.prog 46 #[.pointer (some ⟨rb, 0, none⟩)] w fun e w' => e = .returned (.bool true) ∧ RB w' rb src off c xs xs.length ∧ w.grownBy w' (some rb) := by
  have c0 : w.cell? ⟨rb, 0, none⟩ = some (.slice (some ⟨src, off, none⟩) xs.length c) := blk_cell h.box 0
  have c1 : w.cell? ⟨rb, 1, none⟩ = some (.int .i64 bf) := blk_cell h.box 1
  obtain ⟨sz, hsz⟩ : ∃ sz : Int, sz = 32768 := ⟨_, rfl⟩
  have c2 : w.cell? ⟨rb, 2, none⟩ = some (.int .i64 sz) := by rw [hsz]; exact blk_cell h.box 2
  have f1 : w.frozen? ⟨rb, 1, none⟩ = false := blk_frozen h.box 1
  have HH := Aside0.mk h
  have hbg : (xs.length : Int) ≤ sz := by omega
  have he : ¬ (xs.length : Int) = bf := by omega
  clear h hb hz hsz
  go_enter Tryz.func46, Tryz.ntmps46
  go_wp2_with fail
  go_quiet (fail)
  all_goals go_wp2_with fail
  all_goals go_region
  all_goals go_wp2_with fail
  all_goals go_ret
  all_goals
    first
      | exact ⟨rfl, (HH.out.below (pw_below_drewN (Below.refl _ _) _)).setbf (by omega) (by omega), grown_set (grown_below' (pw_below_drewN (Below.refl _ _) _) _) 1 _⟩
      | (have hmin : sz = xs.length := by omega
         rw [hmin]
         exact ⟨rfl, (HH.out.below (pw_below_drewN (Below.refl _ _) _)).setbf (by omega) (by omega), grown_set (grown_below' (pw_below_drewN (Below.refl _ _) _) _) 1 _⟩)
/-- What Peek answers where there is enough. -/
def PeR (rb src off c k : Nat) (xs : List Int) (bf : Int) (w : World) (e : Ending) (w' : World) : Prop :=
  ∃ bf' : Int, e = .returned (.tuple #[.slice (some ⟨src, off, none⟩) k c, .nilIface]) ∧ RB w' rb src off c xs bf' ∧ (k : Int) ≤ bf' ∧ w.grownBy w' (some rb) ∧ (bf' = bf ∨ bf' = (xs.length : Int))
set_option maxHeartbeats 4000000 in
set_option maxRecDepth 100000 in
theorem peek_any {rb src off c : Nat} {xs : List Int} {bf : Int} (k : Nat) (w : World) (h : RB w rb src off c xs bf) (hk : k ≤ xs.length) (hz : xs.length ≤ 32768) :
    Calls Tryz.prog 29 #[.pointer (some ⟨rb, 0, none⟩), .int .i64 k] w fun e w' => PeR rb src off c k xs bf w e w' := by
  have c0 : w.cell? ⟨rb, 0, none⟩ = some (.slice (some ⟨src, off, none⟩) xs.length c) := blk_cell h.box 0
  have c1 : w.cell? ⟨rb, 1, none⟩ = some (.int .i64 bf) := blk_cell h.box 1
  obtain ⟨sz, hsz⟩ : ∃ sz : Int, sz = 32768 := ⟨_, rfl⟩
  have c2 : w.cell? ⟨rb, 2, none⟩ = some (.int .i64 sz) := by rw [hsz]; exact blk_cell h.box 2
  have HH := Aside0.mk h
  have hk2 : (k : Int) ≤ sz := by omega
  have HSZ := Aside0.mk hsz
  have hkc : k ≤ c := by have := h.le; omega
  by_cases hb : (k : Int) ≤ bf
  · have hb2 : decide (bf < (k : Int)) = false := decide_eq_false (by omega)
    have hb3 : ¬ bf < (k : Int) := by omega
    clear h hsz
    go_enter Tryz.func29, Tryz.ntmps29
    go_wp2_with fail
    refine wp_loop_rounds 1 ?_
    rw [rounds_succ]
    go_wp2_with fail
    go_quiet (fail)
    all_goals go_wp2_with fail
    all_goals go_ret2
    all_goals exact ⟨bf, rfl, HH.out.below (pw_below_drewN (Below.refl _ _) _), hb, grown_below' (pw_below_drewN (Below.refl _ _) _) _, .inl rfl⟩
  · have hb2 : decide (bf < (k : Int)) = true := decide_eq_true (by omega)
    have hb3 : bf < (k : Int) := by omega
    have hb4 : bf < sz := by omega
    have hb5 : decide (bf < sz) = true := decide_eq_true (by omega)
    have HF := Aside0.mk (fun W (h : RB W rb src off c xs bf) => fill_any W h (by omega) hz)
    have hxl : decide ((xs.length : Int) < (k : Int)) = false := decide_eq_false (by omega)
    have hxm : ¬ (xs.length : Int) < (k : Int) := by omega
    have hxn : decide (xs.length < k) = false := decide_eq_false (by omega)
    have hxk : (k : Int) ≤ (xs.length : Int) := by omega
    clear h hz hsz
    go_enter Tryz.func29, Tryz.ntmps29
    go_wp2_with fail
    refine wp_loop_rounds 2 ?_
    rw [rounds_succ]
    go_wp2_with fail
    go_quiet (fail)
    go_wp2_with fail
    refine (HF.out _ (HH.out.below (pw_below_drewN (Below.refl _ _) _))).mono ?_
    rintro e w2 ⟨rfl, h2, hg⟩
    have d0 : w2.cell? ⟨rb, 0, none⟩ = some (.slice (some ⟨src, off, none⟩) xs.length c) := blk_cell h2.box 0
    have d1 : w2.cell? ⟨rb, 1, none⟩ = some (.int .i64 xs.length) := blk_cell h2.box 1
    have d2 : w2.cell? ⟨rb, 2, none⟩ = some (.int .i64 sz) := by rw [HSZ.out]; exact blk_cell h2.box 2
    have H2 := Aside0.mk h2
    have HG := Aside0.mk (grown_trans' (grown_below' (pw_below_drewN (Below.refl w.heap.size w) _) (some rb)) hg)
    clear h2 hg c0 c1 c2 hb2 hb3 hb4 hb5 hb
    go_wp2_with fail
    rw [rounds_succ]
    go_wp2_with fail
    go_quiet (fail)
    all_goals go_wp2_with fail
    all_goals go_ret2
    all_goals exact ⟨xs.length, rfl, H2.out.below (pw_below_drewN (Below.refl _ _) _), hxk, grown_trans' HG.out (grown_below' (pw_below_drewN (Below.refl _ _) _) _), .inr rfl⟩
theorem newReaderSize_any (A : Option Addr) (n c : Nat) (w : World) : Calls Tryz.prog 28 #[.slice A n c, .int .i64 32768] w fun e w' => e = .returned (.pointer (some ⟨w.heap.size, 0, none⟩)) ∧ w' = w.alloc (.cells #[.slice A n c, .int .i64 0, .int .i64 32768] 82) := by
  go_enter Tryz.func28, Tryz.ntmps28
  go_wp2_with fail
  go_ret
  exact ⟨rfl, rfl⟩
theorem newReader_any (A : Option Addr) (n c : Nat) (w : World) : Calls Tryz.prog 17 #[.slice A n c] w fun e w' => e = .returned (.pointer (some ⟨w.heap.size + 1, 0, none⟩)) ∧ w' = (w.alloc (.cells #[.slice A n c, .int .i64 0, .int .i64 32768] 82)).alloc (.cells #[.pointer (some ⟨w.heap.size, 0, none⟩)] 63) := by
  go_enter Tryz.func17, Tryz.ntmps17
  go_wp2_with fail
  refine (newReaderSize_any A n c _).mono ?_
  rintro e w1 ⟨rfl, rfl⟩
  go_wp2_with fail
  go_ret
  exact ⟨by simp, rfl⟩
/-- The world behind the bytes, their source and its reader. -/
def rdW (w : World) (s : ByteArray) : World := ((Lib.bytesWorld w 5 s).alloc (.cells #[.slice (some ⟨w.heap.size, 0, none⟩) s.size (grownCap w s.size 0 5), .int .i64 0, .int .i64 32768] 82)).alloc (.cells #[.pointer (some ⟨w.heap.size + 1, 0, none⟩)] 63)
theorem rdW_below (w : World) (s : ByteArray) : Below w.heap.size w (rdW w s) := below_alloc (below_alloc (bytes_below (Below.refl w.heap.size w) (Nat.le_refl _) 5 s) _) _
theorem rdW_rb (w : World) (s : ByteArray) (hs : s.size ≤ 1000000000) : RB (rdW w s) (w.heap.size + 1) w.heap.size 0 (grownCap w s.size 0 5) (bytesOf s) 0 := by
  have hl := bytesOf_length s
  have hz := Lib.bytesWorld_size w 5 s
  have hn := heap_alloc_new (Lib.bytesWorld w 5 s) (.cells #[.slice (some ⟨w.heap.size, 0, none⟩) s.size (grownCap w s.size 0 5), .int .i64 0, .int .i64 32768] 82)
  rw [hz] at hn
  refine ⟨?_, by rw [hl]; exact grownCap_ge _ _ _ _, by omega, ?_, by omega, by omega, by omega, by unfold rdW; rw [World.size_alloc, World.size_alloc, hz]; omega⟩
  · rw [hl]
    exact (Below.heap_alloc _ _ _ (by rw [World.size_alloc, hz]; omega)).trans hn
  · rw [hl]
    exact reads_block (reads_block (bytes_reads w 5 s (by omega)) (Below.heap_alloc _ _ _ (by omega))) (Below.heap_alloc _ _ _ (by rw [World.size_alloc, hz]; omega))
theorem rdW_pr (w : World) (s : ByteArray) : (rdW w s).heap[w.heap.size + 2]? = some (.cells #[.pointer (some ⟨w.heap.size + 1, 0, none⟩)] 63 (0, 0)) := by
  have hz := Lib.bytesWorld_size w 5 s
  have hn := heap_alloc_new ((Lib.bytesWorld w 5 s).alloc (.cells #[.slice (some ⟨w.heap.size, 0, none⟩) s.size (grownCap w s.size 0 5), .int .i64 0, .int .i64 32768] 82)) (.cells #[.pointer (some ⟨w.heap.size + 1, 0, none⟩)] 63)
  rw [World.size_alloc, hz] at hn
  exact hn
end Go.Proofs.YtkogipaaioibaaaGreatDoor

namespace Go.Proofs.YtkogipaaioibaaaGreatDoor
set_option linter.unusedVariables false
set_option linter.unusedSimpArgs false
open Go.RowKit Go.Proofs.YtkogipaaioibaaaGreatDoorW.PrintWords Go.Proofs.YtkogipaaioibaaaGreatDoorW.PrintLast Go.Proofs.YtkogipaaioibaaaGreatDoorW.PrintMore
attribute [local go_sem] max2_int min2_int max_two min_two max_three min_three max_four min_four
theorem RB.at {w : World} {rb src c : Nat} {xs : List Int} {bf : Int} (h : RB w rb src 0 c xs bf) (j : Nat) (hj : j < xs.length) : w.cell? ⟨src, j, none⟩ = some (.int .u8 (xs.getD j 0)) := by
  obtain ⟨ad, he, hc⟩ := h.row.2.2 (by omega)
  injection he with he
  subst he
  have h1 := hc j hj
  rwa [show (⟨src, 0, none⟩ : Addr).add j = ⟨src, j, none⟩ by unfold Addr.add; split <;> simp_all] at h1
set_option maxHeartbeats 2000000 in
set_option maxRecDepth 100000 in
theorem peekType_any {pr rb src c : Nat} {xs r : List Int} {bf x : Int} (hx : xs = x :: r) (hne : (x == 124) = false) (w : World) (hp : w.heap[pr]? = some (.cells #[.pointer (some ⟨rb, 0, none⟩)] 63 (0, 0))) (h : RB w rb src 0 c xs bf) (hz : xs.length ≤ 32768) :
    Calls Tryz.prog 25 #[.pointer (some ⟨pr, 0, none⟩)] w fun e w' => e = .returned (.tuple #[.int .u8 x, .nilIface]) ∧ w.grownBy w' (some rb) := by
  have p0 : w.cell? ⟨pr, 0, none⟩ = some (.pointer (some ⟨rb, 0, none⟩)) := blk_cell hp 0
  have HP := Lib.hid (peek_any 1 w h (by rw [hx]; simp) hz)
  have HX := Lib.hid hx
  clear h hz hp hx
  go_enter Tryz.func25, Tryz.ntmps25
  go_wp2_with fail
  refine HP.out.mono ?_
  rintro e w1 ⟨bf', rfl, h1, hk, hg, -⟩
  have c0 : w1.cell? ⟨src, 0, none⟩ = some (.int .u8 x) := by
    have := h1.at 0 (by rw [HX.out]; simp)
    rw [HX.out] at this
    exact this
  have HG := Lib.hid hg
  clear h1 hg HP
  go_wp2_with fail
  go_ret2
  exact ⟨rfl, HG.out⟩
def NormalOnly (K : Act → World → Prop) : Exit → Act → World → Prop := fun e a w => match e with
  | .normal => K a w
  | _ => False
theorem wp_only {P : Program} {c : Code} {Q : Exit → Act → World → Prop} {a : Act} {w : World} (h : c.wp P (NormalOnly (Q .normal)) a w) : c.wp P Q a w :=
  Code.wp_mono (fun e a w h => by cases e <;> first | exact h | exact h.elim) h
theorem idleK (a b : Value) (w : World) :
    CallsD Tryz.prog 24 #[a, b] .returning w fun e u' w' => e = .returned (.tuple #[]) ∧ u' = .returning ∧ w' = w := by
  refine callsD_of_wpS Tryz.func24 rfl fun c₀ cs hu => ?_
  apply wpS_seq
  apply wpS_region
  simp [wpOpsS, go_sem, recoverD, hu, Tryz.ntmps24, Exit.thenS]
  refine wpS_cond (t := false) (by simp [Act.eval, Array.replicate]) ?_
  simp only [Bool.false_eq_true, if_false]
  refine wpS_of_wp (wp_skip ?_)
  cases c₀
  simp_all [bodyPostS, results, Tryz.results24]
theorem resK (tmps : Array Value) (w : World) (g g1 : Nat) (x y : Int) (h2 : tmps.getD 2 undef = .pointer (some ⟨g, 0, none⟩)) (h3 : tmps.getD 3 undef = .pointer (some ⟨g1, 0, none⟩))
    (hg : w.cell? ⟨g, 0, none⟩ = some (.int .i64 x)) (hx : w.cell? ⟨g1, 0, none⟩ = some (.int .i64 y)) :
    (results Tryz.f14 tmps).run Tryz.prog w = .ok (.tuple #[.int .i64 x, .int .i64 y]) w := by
  have h2' : tmps[2]?.getD undef = .pointer (some ⟨g, 0, none⟩) := by simpa using h2
  have h3' : tmps[3]?.getD undef = .pointer (some ⟨g1, 0, none⟩) := by simpa using h3
  simp [results, Tryz.results14, h2', h3', asAddr, go_sem, hg, hx]
theorem newReader_at (w : World) (s : ByteArray) : Calls Tryz.prog 17 #[.slice (some ⟨w.heap.size, 0, none⟩) s.size (grownCap w s.size 0 5)] (Lib.bytesWorld w 5 s) fun e w' => e = .returned (.pointer (some ⟨w.heap.size + 2, 0, none⟩)) ∧ w' = rdW w s := by
  refine (newReader_any _ _ _ _).mono ?_
  rintro e w' ⟨rfl, rfl⟩
  have hz := Lib.bytesWorld_size w 5 s
  unfold rdW
  rw [hz]
  exact ⟨rfl, rfl⟩
/-- The world behind PeekKind's two results' cells. -/
def kW (w : World) : World := (w.alloc (.cells #[.int .i64 0] 3)).alloc (.cells #[.int .i64 0] 3)
set_option maxHeartbeats 4000000 in
set_option maxRecDepth 100000 in
theorem peekKind_any (s : ByteArray) (x : Int) (r : List Int) (hx : bytesOf s = x :: r) (hne : (x == 124) = false) (hr0 : 0 ≤ x) (hr1 : x < 256) (hs : s.size ≤ 32768) (w : World) :
    Calls Tryz.prog 14 #[.string s] w fun e w' => e = .returned (.tuple #[.int .i64 x, .int .i64 0]) ∧ Below w.heap.size w w' := by
  have hbs := fun w => print_bytes (P := Tryz.prog) 9 42 5 Tryz.underlying9 Tryz.underlying42 Tryz.underlying5 s w
  have hks : (kW w).heap.size = w.heap.size + 1 + 1 := by unfold kW; rw [World.size_alloc, World.size_alloc]
  have hf := (peekType_any hx hne (rdW (kW w) s) (rdW_pr _ s) (rdW_rb _ s (by omega)) (by rw [bytesOf_length]; exact hs))
  have hnr := newReader_at (kW w) s
  have hbw := rdW_below (kW w) s
  have q0 : (kW w).heap[w.heap.size]? = some (.cells #[.int .i64 0] 3 (0, 0)) := (Below.heap_alloc _ _ _ (by rw [World.size_alloc]; omega)).trans (heap_alloc_new w _)
  have q1 : (kW w).heap[w.heap.size + 1]? = some (.cells #[.int .i64 0] 3 (0, 0)) := by
    have h := heap_alloc_new (w.alloc (.cells #[.int .i64 0] 3)) (.cells #[.int .i64 0] 3)
    rw [World.size_alloc] at h
    exact h
  rw [hks] at hnr hf hbw
  have HKS := Lib.hid hks
  have HNR := Lib.hid hnr
  have HF := Lib.hid hf
  have HBW := Lib.hid hbw
  have HQ := Lib.hid (And.intro q0 q1)
  have hu8 : IntKind.u8.wrap x = x := by rw [IntKind.wrap_u8]; omega
  clear hx hne hs hks q0 q1 hnr hf hbw
  go_enter_defers Tryz.func14, Tryz.ntmps14
  go_wp2_with fail
  refine HNR.out.mono ?_
  rintro e w1 ⟨rfl, rfl⟩
  clear hbs
  go_wp2_with fail
  refine HF.out.mono ?_
  rintro e w2 ⟨rfl, hg⟩
  have hks := HKS.out
  have y0 : w2.heap[w.heap.size]? = some (.cells #[.int .i64 0] 3 (0, 0)) := (hg.block _ (by have := HBW.out.size; omega) (by intro e; injection e with e; omega)).trans ((HBW.out.block _ (by omega)).trans HQ.out.1)
  have y1 : w2.heap[w.heap.size + 1]? = some (.cells #[.int .i64 0] 3 (0, 0)) := (hg.block _ (by have := HBW.out.size; omega) (by intro e; injection e with e; omega)).trans ((HBW.out.block _ (by omega)).trans HQ.out.2)
  have c0 : w2.cell? ⟨w.heap.size, 0, none⟩ = some (.int .i64 0) := blk_cell y0 0
  have c1 : w2.cell? ⟨w.heap.size + 1, 0, none⟩ = some (.int .i64 0) := blk_cell y1 0
  have f0 := blk_frozen y0 0
  have f1 := blk_frozen y1 0
  have l0 := blk_lt y0
  have l1 := blk_lt y1
  have hb0 : Below w.heap.size w (kW w) := below_alloc (below_alloc (Below.refl _ _) _) _
  have hb1 := hb0.trans ((HBW.out).mono (by omega))
  have hb2 := hb1.grown hg hb1.size (by rintro q hq; injection hq with hq; omega)
  have HEND : Hid (∀ a b : Int, ((w2.setCell ⟨w.heap.size, 0, none⟩ (.int .i64 a)).setCell ⟨w.heap.size + 1, 0, none⟩ (.int .i64 b)).cell? ⟨w.heap.size, 0, none⟩ = some (.int .i64 a) ∧ ((w2.setCell ⟨w.heap.size, 0, none⟩ (.int .i64 a)).setCell ⟨w.heap.size + 1, 0, none⟩ (.int .i64 b)).cell? ⟨w.heap.size + 1, 0, none⟩ = some (.int .i64 b) ∧ Below w.heap.size w ((w2.setCell ⟨w.heap.size, 0, none⟩ (.int .i64 a)).setCell ⟨w.heap.size + 1, 0, none⟩ (.int .i64 b))) := Lib.hid fun a b => by
    have z0 := blk_set y0 0 (.int .i64 a)
    have z1 := blk_far y1 (p := ⟨w.heap.size, 0, none⟩) (by show w.heap.size + 1 ≠ w.heap.size; omega) (.int .i64 a)
    have z2 := blk_set z1 0 (.int .i64 b)
    have z3 := blk_far z0 (p := ⟨w.heap.size + 1, 0, none⟩) (by show w.heap.size ≠ w.heap.size + 1; omega) (.int .i64 b)
    exact ⟨blk_cell z3 0, blk_cell z2 0, below_set (below_set hb2 (Nat.le_refl _)) (Nat.le_succ _)⟩
  clear hks hg y0 y1 hb0 hb1 hb2 HF HQ HBW
  go_wp2
  refine leaves_cons (f := 24) (args := #[.pointer (some ⟨w.heap.size, 0, none⟩), .pointer (some ⟨w.heap.size + 1, 0, none⟩)]) (by simp) (by simp [go_sem]) ?_
  refine (idleK _ _ _).mono ?_
  rintro e u' w'' ⟨rfl, rfl, rfl⟩
  exact ⟨_, resK _ _ w.heap.size (w.heap.size + 1) x 0 rfl rfl (HEND.out x 0).1 (HEND.out x 0).2.1, rfl, (HEND.out x 0).2.2⟩
end Go.Proofs.YtkogipaaioibaaaGreatDoor

namespace Go.Proofs.YtkogipaaioibaaaGreatDoor
open Go.RowKit Go.Proofs.YtkogipaaioibaaaGreatDoorW.PrintWords
open Go.ChangeShapes Go.WideShapes Go.Deep
open PAll (info5 S25 k25 z25)

section
variable {H : Type} {enc : TypeId × Value → H} {w : World} {base : Nat} {spare : Nat → Bool} {held : Bool}

theorem cells25 : Tryz.prog.cellsOf 25 = 5 := by kernel_rfl
theorem cells2 : Tryz.prog.cellsOf 2 = 1 := by kernel_rfl
theorem cells3 : Tryz.prog.cellsOf 3 = 1 := by kernel_rfl
theorem cells22 : Tryz.prog.cellsOf 22 = 1 := by kernel_rfl
theorem cells24 : Tryz.prog.cellsOf 23 = 1 := by kernel_rfl
theorem cells9 : Tryz.prog.cellsOf 9 = 1 := by kernel_rfl

set_option maxRecDepth 100000 in
theorem open_val (fuel : Nat) : ∀ (cs : List Value) (x : DataW H × List MemPlace), DataW.trod enc Tryz.prog w base spare held fuel 25 cs = some x → ∃ S : S25, k25.K w S cs ∧ wfR S := by
  induction fuel using Nat.strongRecOn with
  | _ fuel ih =>
    intro cs x h
    obtain ⟨xs, n, hfu, _, hlen, hxl, hf⟩ := DataW.trod_struct Tryz.underlying25 h
    rw [cells25] at hlen
    match cs, hlen with
    | [c0, c1, c2, c3, c4], _ =>
      match xs, hxl with
      | [y0, y1, y2, y3, y4], _ =>
        have g0 : DataW.trod enc Tryz.prog w base spare held n 3 [c0] = some y0 := by simpa [cells3] using hf 0 _ rfl
        have g1 : DataW.trod enc Tryz.prog w base spare held n 2 [c1] = some y1 := by simpa [cells2] using hf 1 _ rfl
        have g2 : DataW.trod enc Tryz.prog w base spare held n 22 [c2] = some y2 := by simpa [cells22] using hf 2 _ rfl
        have g3 : DataW.trod enc Tryz.prog w base spare held n 9 [c3] = some y3 := by simpa [cells9] using hf 3 _ rfl
        have g4 : DataW.trod enc Tryz.prog w base spare held n 23 [c4] = some y4 := by simpa [cells24] using hf 4 _ rfl
        clear hf
        obtain ⟨k, e0, _, wk0⟩ := DataW.trod_int Tryz.underlying3 g0
        obtain ⟨i, e1, _, wi⟩ := DataW.trod_int Tryz.underlying2 g1
        obtain ⟨f, e2, _, wf⟩ := DataW.trod_int Tryz.underlying22 g2
        obtain ⟨s, e3, _, _⟩ := DataW.trod_string Tryz.underlying9 g3
        simp only [List.cons.injEq, and_true] at e0 e1 e2 e3
        subst e0 e1 e2 e3
        have wk' : -9223372036854775808 ≤ k ∧ k < 9223372036854775808 := by have := Go.bounds_i64 wk0; omega
        have wi' : -9223372036854775808 ≤ i ∧ i < 9223372036854775808 := by have := Go.bounds_i64 wi; omega
        have wf' : 0 ≤ f ∧ f < 18446744073709551616 := by have := Go.bounds_u64 wf; omega
        have hk : ∃ (A6 : Option Addr) (d6 : Nat) (kids : List S25), c4 = .slice A6 kids.length d6 ∧ kids.length ≤ d6 ∧ Kd.C k25 w A6 kids.length kids ∧ wfAll kids := by
          rcases DataW.trod_slice Tryz.underlying23 g4 with ⟨e6, _⟩ | ⟨a, len, cap, elems, rest, m, hm, e6, _, hb, hl, hmax, hlen, hel, _⟩
          · simp only [List.cons.injEq, and_true] at e6
            subst e6
            exact ⟨none, 0, [], rfl, Nat.le_refl _, ⟨rfl, by decide, fun h => absurd h (by decide)⟩, trivial⟩
          · simp only [List.cons.injEq, and_true] at e6
            subst e6
            have hall : ∀ j, j < len → ∃ (S : S25) (cs : List Value), k25.K w S cs ∧ wfR S ∧ cs.length = 5 ∧ ∀ t u, cs[t]? = some u → w.cell? (a.add (j * 5 + t)) = some u := by
              intro j hj
              have h1 := hel j hj
              rw [List.getElem?_eq_getElem (by omega)] at h1
              obtain ⟨cs', hc, ht⟩ := Option.bind_eq_some_iff.1 h1
              rw [cells25] at hc
              obtain ⟨S, hS, hw⟩ := ih m (by omega) _ _ ht
              obtain ⟨_, hcl, hat⟩ := World.cells?_some hc
              refine ⟨S, cs', hS, hw, hcl, fun t u hu => ?_⟩
              have htl : t < 5 := by have := (List.getElem?_eq_some_iff.1 hu).1; omega
              rw [← Go.Deep.add_add, hat t htl]
              exact hu
            haveI : Inhabited (S25 × List Value) := ⟨(z25, [])⟩
            obtain ⟨F, hF⟩ := choose_lt (α := S25 × List Value) (n := len) (p := fun j q => k25.K w q.1 q.2 ∧ wfR q.1 ∧ q.2.length = 5 ∧ ∀ t u, q.2[t]? = some u → w.cell? (a.add (j * 5 + t)) = some u)
              (fun j hj => by obtain ⟨S, cs, h⟩ := hall j hj; exact ⟨(S, cs), h⟩)
            have hlenk : ((List.range len).map fun j => (F j).1).length = len := by simp
            refine ⟨some a, cap, (List.range len).map fun j => (F j).1, by rw [hlenk], by omega, ⟨rfl, by rw [hlenk]; simp only [maxLen] at hmax; omega, fun _ => ⟨a, rfl, fun j p hj => ?_⟩⟩, ?_⟩
            · obtain ⟨hjl, hjp⟩ := List.getElem?_eq_some_iff.1 hj
              rw [hlenk] at hjl
              have hp : (F j).1 = p := by simpa using hjp
              obtain ⟨h1, h2, h3, h4⟩ := hF j hjl
              exact ⟨(F j).2, h3, hp ▸ h1, h4⟩
            · have hw : ∀ l : List S25, (∀ S ∈ l, wfR S) → wfAll l := by
                intro l
                induction l with
                | nil => intro _; trivial
                | cons y r ihr => intro h; exact ⟨h y (by simp), ihr (fun S hS => h S (by simp [hS]))⟩
              refine hw _ (fun S hS => ?_)
              obtain ⟨j, hj, rfl⟩ := List.mem_map.1 hS
              exact (hF j (List.mem_range.1 hj)).2.1
        obtain ⟨A6, d6, kids, rfl, l6, q6, wk⟩ := hk
        exact ⟨⟨k, i, f, s, kids⟩, PAll.k25_mk w ⟨k, i, f, s, kids⟩ l6 q6, ⟨⟨wk'.1, wk'.2, wi'.1, wi'.2, wf'.1, wf'.2⟩, wk⟩⟩

set_option maxRecDepth 100000 in
/-- An argument that is a Reply. -/
theorem open_replyArg {r : Reach} {b0 : Nat} {v : Value} {d : DataW H} {p : List MemPlace} (hv : Value.okWide Tryz.prog w r b0 25 v) (h : DataW.Trod enc Tryz.prog w base spare held 25 v d p) :
    ∃ (k i f : Int) (s : ByteArray) (kids : List RP) (A : Option Addr) (c : Nat), v = .agg #[.int .i64 k, .int .i64 i, .int .u64 f, .string s, .slice A kids.length c] ∧ wfR ⟨k, i, f, s, kids⟩ ∧ kids.length ≤ c ∧ Kd.C kR w A kids.length kids := by
  obtain ⟨cs, rfl, hsz⟩ := okWide_struct Tryz.underlying25 hv
  obtain ⟨fuel, hf⟩ := h
  obtain ⟨⟨k, i, f, s, kids⟩, hS, hw⟩ := open_val fuel _ _ hf
  obtain ⟨A6, c6, he, l6, q6⟩ := PAll.k25_open hS
  refine ⟨k, i, f, s, kids, A6, c6, ?_, hw, l6, q6⟩
  have : cs.toList = _ := he
  obtain ⟨l⟩ := cs
  simp only at this
  rw [this]
end
end Go.Proofs.YtkogipaaioibaaaGreatDoor

namespace Go.Proofs.YtkogipaaioibaaaGreatDoor
open Go.ChangeShapes Go.WideShapes Go.RowKit
set_option linter.unusedVariables false
theorem gP : Tryz.prog.globalNamed "internal/strconv.uint64pow10" = some 1 := by kernel_rfl
theorem gPType : (Tryz.prog.globals[1]?).map (·.type) = some 134 := by kernel_rfl
theorem cells_P : Tryz.prog.cellsOf 134 = 20 := by kernel_rfl
theorem cells_e : Tryz.prog.cellsOf 22 = 1 := by kernel_rfl
theorem under_P : Tryz.prog.underlying 134 = some (.array 20 22) := by kernel_rfl
theorem under_e : Tryz.prog.underlying 22 = some (.int .u64) := by kernel_rfl
theorem gT : Tryz.prog.globalNamed "internal/strconv.pow10Tab" = some 8 := by kernel_rfl
/-- The laid variables. -/
def LD : List (String × DataW Unit) := Rows.fnRespPeekRow.laid
theorem laid_met (os : Os) (args : Array Value) : laidMetH Tryz.prog LD ((World.laidAll Tryz.prog os LD).forCall (fun _ _ => 0) ⟨#[], args, []⟩).memory := by
  rw [MakeChecks.laidMetH_plain _ _ _ (by kernel_rfl)]
  exact laidMet_laidAll args (by kernel_rfl) (by kernel_rfl)
theorem laid_shaped (os : Os) (args : Array Value) : ((World.laidAll Tryz.prog os LD).forCall (fun _ _ => 0) ⟨#[], args, []⟩).Shaped Tryz.prog :=
  World.shaped_of_ZipB (by kernel_rfl) (by kernel_rfl)
theorem var_below {w w' : World} {n : String} {g B : Nat} {cs : Array Value} (h : w.var? Tryz.prog n = some cs) (hg : Tryz.prog.globalNamed n = some g) (hb : Below B w w') (hlt : g < B) : w'.var? Tryz.prog n = some cs := by
  unfold World.var? at h ⊢
  rw [hg] at h ⊢
  simp only [Option.bind_some] at h ⊢
  rw [hb.block g hlt]
  exact h
theorem var_lt {w : World} {n : String} {g : Nat} {cs : Array Value} (h : w.var? Tryz.prog n = some cs) (hg : Tryz.prog.globalNamed n = some g) : g < w.heap.size := by
  apply Classical.byContradiction
  intro hn
  unfold World.var? at h
  rw [hg] at h
  simp only [Option.bind_some] at h
  rw [Array.getElem?_eq_none (by omega)] at h
  simp at h
theorem gTType : (Tryz.prog.globals[8]?).map (·.type) = some 185 := by kernel_rfl
theorem under_T : Tryz.prog.underlying 185 = some (.array 696 184) := by kernel_rfl
theorem cells_pm : Tryz.prog.cellsOf 184 = 2 := by kernel_rfl
theorem cells_T : Tryz.prog.cellsOf 185 = 1392 := by kernel_rfl
theorem under_pm : (Tryz.prog.underlying 184).map (fun x => match x with | .struct fs => fs.toList.map (fun f => (f.type, f.offset)) | _ => []) = some [(22, 0), (22, 1)] := by kernel_rfl
theorem tabs_of_head {W : World} {d : DataW Unit} {r : List (String × DataW Unit)} (h : laidMet Tryz.prog (("internal/strconv.pow10Tab", d) :: r) W) :
    8 < W.heap.size ∧ ∀ i : Nat, i < 696 → ∃ h l : Int, 0 ≤ h ∧ h < 18446744073709551616 ∧ 0 ≤ l ∧ l < 18446744073709551616 ∧ W.cell? ⟨8, i * 2, none⟩ = some (.int .u64 h) ∧ W.cell? ⟨8, i * 2 + 1, none⟩ = some (.int .u64 l) := by
  obtain ⟨ps, ⟨g, t, cs, fuel, p, q, hg, hty, hvar, hd, _, _⟩, _⟩ := h
  obtain rfl := Option.some.inj (gT.symm.trans hg)
  obtain rfl := Option.some.inj (gTType.symm.trans hty)
  refine ⟨var_lt hvar gT, fun i hi => ?_⟩
  obtain ⟨xs, m, _, _, hlen, hxl, hel⟩ := DataW.trod_array under_T hd
  rw [cells_T] at hlen
  have h1 := hel i hi
  rw [cells_pm, List.getElem?_eq_getElem (by omega)] at h1
  cases hu : Tryz.prog.underlying 184 with
  | none => have := under_pm; rw [hu] at this; simp at this
  | some u =>
    have hp := under_pm
    rw [hu] at hp
    simp only [Option.map_some, Option.some.injEq] at hp
    cases u with
    | struct fs =>
      simp only at hp
      obtain ⟨ys, n, _, _, _, hyl, hf⟩ := DataW.trod_struct hu h1
      have hl2 : fs.toList.length = 2 := by have := congrArg List.length hp; simpa using this
      match hfs : fs.toList, hl2 with
      | [f0, f1], _ =>
        rw [hfs] at hp
        simp only [List.map_cons, List.map_nil, List.cons.injEq, Prod.mk.injEq, and_true] at hp
        obtain ⟨⟨t0, o0⟩, t1, o1⟩ := hp
        have e0 : fs[0]? = some f0 := by rw [← Array.getElem?_toList, hfs]; rfl
        have e1 : fs[1]? = some f1 := by rw [← Array.getElem?_toList, hfs]; rfl
        have g0 := hf 0 f0 e0
        have g1 := hf 1 f1 e1
        have hy : ys.length = 2 := by rw [hyl, ← Array.length_toList, hfs]; rfl
        rw [t0, o0, cells_e, List.getElem?_eq_getElem (by omega)] at g0
        rw [t1, o1, cells_e, List.getElem?_eq_getElem (by omega)] at g1
        obtain ⟨z0, q0, _, w0⟩ := DataW.trod_int under_e g0
        obtain ⟨z1, q1, _, w1⟩ := DataW.trod_int under_e g1
        have c0 : cs[i * 2]? = some (.int .u64 z0) := by
          have := congrArg (·[0]?) q0
          simpa [List.getElem?_take, List.getElem?_drop] using this
        have c1 : cs[i * 2 + 1]? = some (.int .u64 z1) := by
          have := congrArg (·[0]?) q1
          simpa [List.getElem?_take, List.getElem?_drop] using this
        have b0 := Go.bounds_u64 w0
        have b1 := Go.bounds_u64 w1
        exact ⟨z0, z1, by omega, by omega, by omega, by omega, (World.var?_cell gT hvar _).trans c0, (World.var?_cell gT hvar _).trans c1⟩
    | _ => simp at hp
theorem tb_of_laid {W : World} (h : laidMetH Tryz.prog LD W) : Tb W := by
  rw [MakeChecks.laidMetH_plain _ _ _ (by kernel_rfl)] at h
  have h2 : laidMet Tryz.prog (("internal/strconv.uint64pow10", Lib.tabData .u64 Lib.pow10Tab) :: [("strconv.ErrRange", Rows.laid_strconv_ErrRange), ("strconv.ErrSyntax", Rows.laid_strconv_ErrSyntax), ("internal/strconv.leftcheats", Rows.laid_internal_strconv_leftcheats), ("internal/strconv.pow10Tab", Rows.laid_internal_strconv_pow10Tab)]) W := laidMet.tail (laidMet.tail (laidMet.tail h))
  have h3 := Lib.tabIs_of_head gP gPType under_P under_e cells_e cells_P h2
  have h4 := laidMet.tail (laidMet.tail (laidMet.tail (laidMet.tail h2)))
  obtain ⟨h5, h6⟩ := tabs_of_head h4
  exact ⟨fun wi hb => var_below h3 gP hb (var_lt h3 gP), h6, h5⟩
/-- A call to begin with: the laid world. -/
theorem witness_laid {H : Type} {enc : TypeId × Value → H} {f : FuncId} {fn : Func} {s : ChangeSpec} {X : World → Array Value → Prop} (os : Os) (args : Array Value)
    (hok : Input.okWideB Tryz.prog ((World.laidAll Tryz.prog os LD).forCall (fun _ _ => 0) ⟨#[], args, []⟩) f ⟨#[], args, []⟩ = true)
    (hpre : s.preB enc Tryz.prog fn [] false ((World.laidAll Tryz.prog os LD).forCall (fun _ _ => 0) ⟨#[], args, []⟩).memory args 16 = true)
    (hsz : s.sizedB enc Tryz.prog fn false ((World.laidAll Tryz.prog os LD).forCall (fun _ _ => 0) ⟨#[], args, []⟩).memory args 16 = true)
    (hx : X ((World.laidAll Tryz.prog os LD).forCall (fun _ _ => 0) ⟨#[], args, []⟩).memory args) :
    ∃ (w : World) (tape : Tape) (i : Input), w.os = os ∧ (w.forCall tape i).Shaped Tryz.checked.prog ∧ i.vars = [] ∧ Input.okWide Tryz.checked.prog (w.forCall tape i) .any w.heap.size f i ∧
      ((s.pre enc Tryz.checked.prog fn [] false (w.forCall tape i).memory i.args ∧ X (w.forCall tape i).memory i.args) ∧ sizedMet enc Tryz.checked.prog fn (OpenSpec.ofChange s) false (w.forCall tape i).memory i.args) ∧ ({ modest := false } : Assume).holds Tryz.checked.prog (lone (Frame.enter Tryz.checked.prog f i.args .normal) [] (w.forCall tape i)) :=
  ⟨World.laidAll Tryz.prog os LD, fun _ _ => 0, ⟨#[], args, []⟩, World.laidAll_os _ _ _, laid_shaped os _, (Input.okWide_of_okWideB (base := 0) hok).1, (Input.okWide_of_okWideB hok).2, ⟨⟨ChangeSpec.pre_of_preB hpre, hx⟩, sizedMet_of_sizedB hsz⟩, by
    simp only [Assume.holds]
    exact ⟨by simp, by simp, fun _ => Modest.zero, by simp, by simp⟩⟩
end Go.Proofs.YtkogipaaioibaaaGreatDoor

namespace Go.Proofs.YtkogipaaioibaaaGreatDoor
set_option linter.unusedVariables false
set_option linter.unusedSimpArgs false
open Go.RowKit Go.Proofs.YtkogipaaioibaaaGreatDoorW.PrintWords
theorem fits_any (x : RP) (A : Option Addr) (c : Nat) (w0 w : World) (hc : x.f4.length ≤ c) (hk : Kd.C kR w0 A x.f4.length x.f4) (hw : Below w0.heap.size w0 w) :
    Calls Tryz.prog 6 #[.agg #[.int .i64 x.f0, .int .i64 x.f1, .int .u64 x.f2, .string x.f3, .slice A x.f4.length c]] w fun e w' => ∃ r : Bool, e = .returned (.bool r) ∧ Below w.heap.size w w' := by
  obtain ⟨r, hr⟩ : ∃ r, PAll.laws_zzFits5.f x.f0 x.f1 x.f2 x.f3 x.f4 = some r := by
    unfold PAll.laws_zzFits5.f
    split
    · exact ⟨_, rfl⟩
    · split
      · exact ⟨_, rfl⟩
      · exact ⟨_, rfl⟩
  exact (PAll.laws_zzFits5.calls x.f0 x.f1 x.f2 x.f3 A c x.f4 r w (Kd.C_below hk hw) hc hr).mono fun e w' h => ⟨r, h⟩
theorem wire_kind {x : RP} {l : List Int} (h : wire x l) : 0 ≤ x.f0 ∧ x.f0 < 256 := by
  obtain ⟨k, i, f, s, kids⟩ := x
  rw [wire] at h
  show 0 ≤ k ∧ k < 256
  rcases h with ⟨h, _⟩ | ⟨h, _⟩ | ⟨h, _⟩ | ⟨h, _⟩
  · unfold lineK at h; omega
  · unfold blobK at h; omega
  · omega
  · unfold aggK at h; omega
theorem wire_size {x : RP} {t : ByteArray} (h : wire x (bytesOf t)) (hn : nodes x ≤ 60) : t.size ≤ 12600 := by
  have h1 := wire_len (nodes x) x (Nat.le_refl _) _ h
  rw [bytesOf_length] at h1
  omega
set_option maxHeartbeats 4000000 in
set_option maxRecDepth 100000 in
theorem FnRespPeek_walk (k i f : Int) (s : ByteArray) (kids : List RP) (A : Option Addr) (c : Nat) (w : World) (hc : kids.length ≤ c) (hk : Kd.C kR w A kids.length kids) (hwf : wfR ⟨k, i, f, s, kids⟩) (ht : Tb w) :
    Calls Tryz.prog 5 #[.agg #[.int .i64 k, .int .i64 i, .int .u64 f, .string s, .slice A kids.length c]] w fun e w' => e = .returned (.bool true) ∧ Below w.heap.size w w' := by
  have HZ := Lib.hid (fun W hw => fits_any ⟨k, i, f, s, kids⟩ A c w W hc hk hw)
  have HLT := Lib.hid (fun W hw => lettered_any ⟨k, i, f, s, kids⟩ A c w W hc hwf hk hw ht)
  unfold valR at HLT
  clear hc hk hwf ht
  go_enter Tryz.func5, Tryz.ntmps5
  go_wp2_with fail
  refine (HZ.out _ (below_alloc (Below.refl _ _) _)).mono ?_
  rintro e w1 ⟨r, rfl, hb1⟩
  have h1 : Below w.heap.size w w1 := (below_alloc (Below.refl _ _) _).trans (hb1.mono (by simp))
  have HB := Lib.hid h1
  have hbx : w1.heap[w.heap.size]? = _ := (hb1.block _ (by simp)).trans (heap_alloc_new w _)
  have HBX := Lib.hid hbx
  obtain ⟨b0, b1, b2, b3, b4⟩ := box5 hbx
  clear hb1 h1 hbx HZ
  cases r
  · go_wp2_with fail
    go_ret
    exact ⟨rfl, HB.out⟩
  go_wp2_with fail
  refine (HLT.out _ HB.out).mono ?_
  rintro e w2 ⟨t, b, rfl, hlt, hb2⟩
  have HB2 := Lib.hid (HB.out.trans (hb2.mono HB.out.size))
  have hbx := (hb2.block _ (blk_lt HBX.out)).trans HBX.out
  obtain ⟨d0, d1, d2, d3, d4⟩ := box5 hbx
  have HLR := Lib.hid hlt
  clear hlt hb2 hbx HLT b0 b1 b2 b3 b4
  cases b
  · go_wp2_with fail
    go_ret
    exact ⟨rfl, HB2.out⟩
  by_cases h124 : k = 124
  · go_wp2_with fail
    go_ret
    exact ⟨rfl, HB2.out⟩
  obtain ⟨hwi, hno, hsh⟩ := HLR.out (by trivial)
  obtain ⟨r, hr⟩ := wire_head hwi
  have hkr := wire_kind hwi
  have HPK := Lib.hid (fun W => peekKind_any t k r hr (beq_eq_false_iff_ne.2 h124) hkr.1 hkr.2 (by have := wire_size hwi hno; omega) W)
  have HAL := Lib.hid (fun W => alive_any W)
  clear hwi hno hsh hr hkr
  go_wp2_with fail
  refine (HPK.out _).mono ?_
  rintro e w3 ⟨rfl, hb3⟩
  have HB3 := Lib.hid (HB2.out.trans (hb3.mono HB2.out.size))
  have hc0 := pw_cell_below hb3 d0
  clear hb3 d0 d1 d2 d3 d4 HPK
  go_wp2_with fail
  refine (HAL.out _).mono ?_
  rintro e w4 ⟨rfl, hb4⟩
  have HB4 := Lib.hid (HB3.out.trans (hb4.mono HB3.out.size))
  clear hb4
  go_wp2_with fail
  go_ret
  exact ⟨rfl, HB4.out⟩
end Go.Proofs.YtkogipaaioibaaaGreatDoor
