/- Frames: ReadResponse. (seat r2) -/
import Derived.Test.YtnbhledkdkchlaaFr2
import Derived.Test.YtnbhledkdkchlaaBe
namespace Go.Proofs.Ytnbhledkdkchlaa
set_option linter.unusedVariables false
set_option linter.unusedSimpArgs false
open Go.RowKit Go.Proofs.YtnbhledkdkchlaaW.PrintWords Go.Proofs.YtnbhledkdkchlaaW.PrintLast Go.Proofs.YtnbhledkdkchlaaW.PrintMore
open PAll (info5)

set_option maxHeartbeats 4000000 in
set_option maxRecDepth 100000 in
theorem full_zero {rb src off c : Nat} {xs : List Int} {bf : Int} (g q mc : Nat) (w : World) (h : RB w rb src off c xs bf) (hb : Bf w g q []) (hg : g ≠ rb) (hs : g ≠ src) :
    Calls Try.prog 71 #[.pointer (some ⟨rb, 0, none⟩), .slice (some ⟨g, 0, none⟩) 0 mc] w fun e w' => FullR rb src g q xs [] w e w' := by
  have c0 : w.cell? ⟨rb, 0, none⟩ = some (.slice (some ⟨src, off, none⟩) xs.length c) := blk_cell h.box 0
  have c1 : w.cell? ⟨rb, 1, none⟩ = some (.int .i64 bf) := blk_cell h.box 1
  have HH := Aside0.mk h
  have HBF := Aside0.mk hb
  have hcp := fun ty => copy_run (ty := ty) mc hb h hs (by simp)
  have e0 : min xs.length ([] : List Int).length = 0 := by simp
  rw [e0] at hcp
  have e1 : w.setCells g 0 (nums .u8 (xs.take ([] : List Int).length)) = w := by simp [nums, World.setCells]
  rw [e1] at hcp
  simp only [List.length_nil, Int.natCast_zero] at hcp
  have HTK := Aside0.mk (take_any 0 w h (Nat.zero_le _))
  clear h hb e0 e1
  go_enter Try.func71, Try.ntmps71
  go_wp2_with fail
  refine (HTK.out).mono ?_
  rintro e w3 ⟨v, off', c', bf', rfl, hr3, hg3⟩
  have HR3 := Aside0.mk hr3
  have HG3 := Aside0.mk hg3
  clear hr3 hg3 HTK hcp c0 c1
  go_wp2_with fail
  go_ret2
  refine ⟨_, .nilIface, off', c', bf', rfl, HR3.out, ?_, fun _ => rfl, fun h => absurd h (by simp), fun i hi hr _ => HG3.out.block i hi (by intro he; injection he with he; exact hr he), HG3.out.size, HG3.out.os, HG3.out.tape, HG3.out.output⟩
  have h := (HG3.out.block g (blk_lt HBF.out) (by intro he; injection he with he; exact hg he)).trans HBF.out
  simpa [Bf] using h
theorem full_all {rb src off c : Nat} {xs : List Int} {bf : Int} (g q mc : Nat) (ys : List Int) (w : World) (h : RB w rb src off c xs bf) (hb : Bf w g q ys) (hg : g ≠ rb) (hs : g ≠ src) (hm2 : ys.length ≤ 1000000000) (hmc : ys.length ≤ mc) :
    Calls Try.prog 71 #[.pointer (some ⟨rb, 0, none⟩), .slice (some ⟨g, 0, none⟩) ys.length mc] w fun e w' => FullR rb src g q xs ys w e w' := by
  cases ys with
  | nil => exact full_zero g q mc w h hb hg hs
  | cons y r => exact full_any g q mc (y :: r) w h hb hg hs (by simp) hm2 hmc

theorem made_bytes (m : Nat) : madeCells (Value.int .u8 0).cells (m * 1) = (nums .u8 (List.replicate m 0)).toArray := by
  apply Array.toList_inj.1
  unfold madeCells nums
  apply List.ext_getElem
  · simp
  · intro i h1 h2
    have e : i % 1 = 0 := Nat.mod_one i
    simp [Value.cells, e]
theorem make_bytes (W : World) (m : Nat) (h1 : m ≤ 100000) : (Instr.makeSlice 69 (.int .i32 (m : Int)) (.int .i32 (m : Int))).run Try.prog W = .ok (.slice (some ⟨W.heap.size, 0, none⟩) m m) (W.alloc (.cells (nums .u8 (List.replicate m 0)).toArray 5)) := by
  obtain ⟨i0, hi, hzz⟩ := Option.map_eq_some_iff.1 info5
  simp only [Prod.mk.injEq] at hzz
  obtain ⟨hz0, hz1, hz2⟩ := hzz
  have hr := run_make (P := Try.prog) (w := W) 69 5 i0 (.int .u8 0) Try.underlying69 hi hz0 .i32 .i32 (m : Int) (m : Int) (by omega) (by omega) (by rw [hz2]; omega) (by omega)
  rw [Int.toNat_natCast, hz1, made_bytes] at hr
  exact hr
theorem full_grown {w w1 w2 : World} {rb g : Nat} (h1 : Below w.heap.size w w1) (hg : w.heap.size ≤ g) (hk : ∀ i, i < w1.heap.size → i ≠ rb → i ≠ g → w2.heap[i]? = w1.heap[i]?) (hs : w1.heap.size ≤ w2.heap.size) (ho : w2.os = w1.os) (ht : w2.tape = w1.tape) (hp : w2.output = w1.output) : w.grownBy w2 (some rb) :=
  ⟨ho.trans h1.os, ht.trans h1.tape, hp.trans h1.output, Nat.le_trans h1.size hs, fun i hi hn => (hk i (Nat.lt_of_lt_of_le hi h1.size) (by intro he; exact hn (by rw [he])) (by omega)).trans (h1.block i hi)⟩

/-- What ReadResponse leaves. -/
def RespR (rb src : Nat) (xs : List Int) (w : World) (e : Ending) (w' : World) : Prop :=
  w.grownBy w' (some rb) ∧ ∃ (rest : List Int) (off c : Nat) (bf : Int), RB w' rb src off c rest bf ∧
    ((xs.length < 4 ∨ (xs.length : Int) - 4 < be (xs.take 4)) → ∃ t v, e = .returned (.tuple #[.slice none 0 0, .iface t v])) ∧
    (4 ≤ xs.length → be (xs.take 4) ≤ (xs.length : Int) - 4 → rest = xs.drop (4 + (be (xs.take 4)).toNat) ∧ ∃ g, w.heap.size ≤ g ∧ e = .returned (.tuple #[.slice (some ⟨g, 0, none⟩) (be (xs.take 4)).toNat (be (xs.take 4)).toNat, .nilIface]) ∧ Bf w' g 5 ((xs.drop 4).take (be (xs.take 4)).toNat))

set_option maxHeartbeats 4000000 in
set_option maxRecDepth 100000 in
theorem resp_any {rb src off c : Nat} {xs : List Int} {bf : Int} (w : World) (h : RB w rb src off c xs bf) (hby : ∀ x ∈ xs, 0 ≤ x ∧ x ≤ 255) (hn : 4 ≤ xs.length → be (xs.take 4) ≤ 100000) :
    Calls Try.prog 55 #[.pointer (some ⟨rb, 0, none⟩)] w fun e w' => RespR rb src xs w e w' := by
  have hlr := blk_lt h.box
  have hls := h.lt
  have HA := Aside0.mk (below_alloc (Below.refl w.heap.size w) (.cells #[.int .u8 0, .int .u8 0, .int .u8 0, .int .u8 0] 115))
  have HF := Aside0.mk (full_all w.heap.size 115 4 [0, 0, 0, 0] (w.alloc (.cells #[.int .u8 0, .int .u8 0, .int .u8 0, .int .u8 0] 115)) (h.below HA.out) (heap_alloc_new w _) (by omega) (by omega) (by simp) (by simp))
  have HLS := Aside0.mk (And.intro hlr hls)
  have HBY := Aside0.mk hby
  clear h hby hls hlr
  go_enter Try.func55, Try.ntmps55
  go_wp2_with fail
  refine (HF.out).mono ?_
  rintro e w1 ⟨n, ev, off1, c1, bf1, rfl, hr1, hb1, he1, he2, hk1, hs1, ho1, ht1, hp1⟩
  have HR1 := Aside0.mk hr1
  have HB1 := Aside0.mk hb1
  have HG1 := Aside0.mk (full_grown HA.out (Nat.le_refl _) hk1 hs1 ho1 ht1 hp1)
  have hsz1 : w.heap.size < w1.heap.size := blk_lt hb1
  clear hr1 hb1 hk1 hs1 ho1 ht1 hp1 HF
  by_cases h4 : xs.length < 4
  · obtain ⟨t, v, rfl⟩ := he2 (by simpa using h4)
    clear he1 he2
    go_wp2_with fail
    go_ret2
    exact ⟨HG1.out, _, _, _, _, HR1.out, fun _ => ⟨t, v, rfl⟩, fun h => by omega⟩
  · obtain rfl := he1 (by simp; omega)
    have H4 := Aside0.mk (show 4 ≤ xs.length by omega)
    have hb4 : Bf w1 w.heap.size 115 (xs.take 4) := by
      have h := HB1.out
      rw [show ([0, 0, 0, 0] : List Int).drop xs.length = [] from List.drop_of_length_le (by simp; omega)] at h
      simpa using h
    have hl4 : (xs.take 4).length = 4 := by rw [List.length_take]; omega
    have HU := Aside0.mk (uint32_any (c := 4) w1 (by have h := hb4.reads (by omega); exact h) (by omega) (by omega) (fun x hx => HBY.out x (List.mem_of_mem_take hx)))
    rw [hl4, List.take_take] at HU
    have hr0 := be_range (xs.take 4) (fun x hx => HBY.out x (List.mem_of_mem_take hx))
    have hn0 := hn H4.out
    obtain ⟨m, hnn⟩ : ∃ m : Nat, be (xs.take 4) = m := ⟨(be (xs.take 4)).toNat, by omega⟩
    rw [show min 4 4 = 4 from rfl, hnn] at HU
    rw [hnn] at hr0 hn0
    have hm : m ≤ 100000 := by omega
    have hmi : (m : Int) ≤ 100000 := by omega
    have hiw : IntKind.i32.wrap (m : Int) = m := by rw [IntKind.wrap_i32]; omega
    have HNN := Aside0.mk hnn
    have hmk := fun W => make_bytes W m hm
    clear he1 he2 h4 hb4 hl4 hr0 hnn HB1 hn hn0
    go_wp2_with fail
    refine (HU.out).mono ?_
    rintro e w2 ⟨rfl, ⟨nd, rfl⟩⟩
    have HB2 := Aside0.mk (pw_below_drewN (Below.refl w1.heap.size w1) nd)
    have HSZ2 := Aside0.mk (show (w1.drewN nd).heap.size = w1.heap.size from rfl)
    generalize w1.drewN nd = w2 at *
    have HA2 := Aside0.mk (HB2.out.trans ((below_alloc (Below.refl w2.heap.size w2) (.cells (nums .u8 (List.replicate m 0)).toArray 5)).mono HB2.out.size))
    have hF2 := full_all w2.heap.size 5 m (List.replicate m 0) (w2.alloc (.cells (nums .u8 (List.replicate m 0)).toArray 5)) (HR1.out.below HA2.out) (heap_alloc_new w2 _) (by have := HLS.out.1; have := HSZ2.out; omega) (by have := HLS.out.2; have := HSZ2.out; omega) (by simp; omega) (by simp)
    rw [List.length_replicate] at hF2
    have HF2 := Aside0.mk hF2
    clear HU hF2 hiw
    go_wp2_with fail
    with_reducible refine (HF2.out).mono ?_
    rintro e w3 ⟨n2, ev2, off3, c3, bf3, rfl, hr3, hb3, he1, he2, hk3, hs3, ho3, ht3, hp3⟩
    have HR3 := Aside0.mk hr3
    have HB3 := Aside0.mk hb3
    have HG3 := Aside0.mk (grown_trans' HG1.out (full_grown HA2.out (by have := HSZ2.out; omega) hk3 hs3 ho3 ht3 hp3))
    clear hr3 hb3 hk3 hs3 ho3 ht3 hp3 HF2 hmk
    have hld : (xs.drop 4).length = xs.length - 4 := List.length_drop
    by_cases hle : m ≤ (xs.drop 4).length
    · obtain rfl := he1 (by simpa using hle)
      clear he1 he2
      go_wp2_with fail
      go_ret2
      refine ⟨HG3.out, _, _, _, _, HR3.out, fun h => ?_, fun _ _ => ⟨?_, w2.heap.size, by have := HSZ2.out; omega, ?_, ?_⟩⟩
      · have := H4.out; have := HNN.out; omega
      · rw [HNN.out, Int.toNat_natCast, List.length_replicate, List.drop_drop]
        rfl
      · rw [HNN.out, Int.toNat_natCast]
        rfl
      · rw [HNN.out, Int.toNat_natCast]
        have h := HB3.out
        rw [List.length_replicate] at h
        have e : (List.replicate m (0 : Int)).drop (xs.drop 4).length = [] := List.drop_of_length_le (by rw [List.length_replicate]; exact hle)
        have h2 : Bf w3 w2.heap.size 5 ((xs.drop 4).take m ++ (List.replicate m (0 : Int)).drop (xs.drop 4).length) := h
        rw [e, List.append_nil] at h2
        exact h2
    · obtain ⟨t, v, rfl⟩ := he2 (by simp only [List.length_replicate]; exact Nat.lt_of_not_le hle)
      clear he1 he2
      go_wp2_with fail
      go_ret2
      exact ⟨HG3.out, _, _, _, _, HR3.out, fun _ => ⟨t, v, rfl⟩, fun _ h => by rw [HNN.out] at h; omega⟩
end Go.Proofs.Ytnbhledkdkchlaa
