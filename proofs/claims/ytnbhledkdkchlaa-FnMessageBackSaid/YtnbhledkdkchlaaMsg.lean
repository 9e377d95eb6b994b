/- impl.identity: an array of sixteen bytes. (seat r2) Message.WriteTo. (seat r2) impl.MessageWrite. (seat r2; printed by gen_msgtext.py) source.Uint64. (seat r2) DecodeMessage. (seat r2; printed by gen_msgrd.py) impl.MessageRead of a whole message. (seat r2; printed by gen_msgread.py) A message's bytes, read again. (seat r2) -/
import Derived.Test.YtnbhledkdkchlaaFr6
import Derived.Lib.BufferWrite
import Derived.Deep.WholeRow
import Derived.Test.YtnbhledkdkchlaaCmdWr
import Derived.Deep.RegionHeld3
import Derived.Test.YtnbhledkdkchlaaFr4
import Derived.RegionTactic
import Derived.Laws.CopyOwn
import Derived.Laws.StructEq
import Derived.Test.YtnbhledkdkchlaaWEqStruct
namespace Go.Proofs.Ytnbhledkdkchlaa
set_option linter.unusedVariables false
set_option linter.unusedSimpArgs false
open Go.RowKit Go.Proofs.YtnbhledkdkchlaaW.PrintWords
open PAll (info5)

/-- Sixteen bytes' cells. -/
def idC (s : ByteArray) : Array Value := (Lib.byteCells s.data.toList).toArray
theorem idC_size {s : ByteArray} (hs : s.size = 16) : (idC s).size = 16 := by
  unfold idC
  rw [List.size_toArray, Lib.byteCells_length]
  exact hs
theorem idC_one (s : ByteArray) : (idC s).all (·.oneCell') = true := by
  rw [Array.all_eq_true_iff_forall_mem]
  intro v hv
  exact Lib.byteCells_one _ v (by simpa [idC] using hv)
def zero16 : Array Value := #[.int .u8 0, .int .u8 0, .int .u8 0, .int .u8 0, .int .u8 0, .int .u8 0, .int .u8 0, .int .u8 0, .int .u8 0, .int .u8 0, .int .u8 0, .int .u8 0, .int .u8 0, .int .u8 0, .int .u8 0, .int .u8 0]
theorem info71 : (Try.prog.info? 71).map (·.size) = some 16 := by kernel_rfl

theorem idC_lit (s : ByteArray) (hs : s.size = 16) : ∃ a0 a1 a2 a3 a4 a5 a6 a7 a8 a9 a10 a11 a12 a13 a14 a15 : Int, idC s = #[.int .u8 a0, .int .u8 a1, .int .u8 a2, .int .u8 a3, .int .u8 a4, .int .u8 a5, .int .u8 a6, .int .u8 a7, .int .u8 a8, .int .u8 a9, .int .u8 a10, .int .u8 a11, .int .u8 a12, .int .u8 a13, .int .u8 a14, .int .u8 a15] := by
  have hl : s.data.toList.length = 16 := hs
  unfold idC
  match s.data.toList, hl with
  | [b0, b1, b2, b3, b4, b5, b6, b7, b8, b9, b10, b11, b12, b13, b14, b15], _ => exact ⟨_, _, _, _, _, _, _, _, _, _, _, _, _, _, _, _, rfl⟩

set_option maxHeartbeats 4000000 in
set_option maxRecDepth 100000 in
theorem identity_any (s : ByteArray) (w : World) (hs : s.size = 16) :
    Calls Try.prog 49 #[.string s] w fun e w' => e = .returned (.agg (idC s)) ∧ Below w.heap.size w w' := by
  have hz : (w.alloc (.cells zero16 71)).heap.size = w.heap.size + 1 := by simp
  have hb1 : ((w.alloc (.cells zero16 71)).alloc (.cells zero16 71)).heap[w.heap.size + 1]? = some (.cells zero16 71 (0, 0)) := by rw [← hz]; exact heap_alloc_new _ _
  have hcp := fun ty => Lib.run_copy_row_string (P := Try.prog) ((w.alloc (.cells zero16 71)).alloc (.cells zero16 71)) 69 9 ty 5 (w.heap.size + 1) 0 16 16 s zero16 71 Try.underlying69 (by kernel_rfl) hb1 (by omega) (by rw [hs]; decide)
  have e1 : (zero16.toList.take 0 ++ Lib.byteCells s.data.toList ++ zero16.toList.drop (0 + s.size)).toArray = idC s := by rw [hs]; simp [zero16, idC]
  have hE : (goInt s.size) = .int .i64 16 := by rw [hs]; rfl
  obtain ⟨a0, a1, a2, a3, a4, a5, a6, a7, a8, a9, a10, a11, a12, a13, a14, a15, hI⟩ := idC_lit s hs
  rw [e1, hE, hI, ← hz, World.setRow_alloc_new, hz] at hcp
  rw [hI]
  simp only [zero16] at hcp
  clear hz hb1 e1 hE hI
  go_enter Try.func49, Try.ntmps49
  go_wp2_with fail
  refine bodyPost_ret (results_cell_row rfl _ _ w.heap.size 71 #[.int .u8 a0, .int .u8 a1, .int .u8 a2, .int .u8 a3, .int .u8 a4, .int .u8 a5, .int .u8 a6, .int .u8 a7, .int .u8 a8, .int .u8 a9, .int .u8 a10, .int .u8 a11, .int .u8 a12, .int .u8 a13, .int .u8 a14, .int .u8 a15] (0, 0) _ rfl (by rw [Below.heap_alloc _ _ _ (by simp)]; exact heap_alloc_new w _) Try.underlying71 rfl info71) rfl ?_
  exact ⟨rfl, below_alloc (below_alloc (Below.refl _ _) _) _⟩
end Go.Proofs.Ytnbhledkdkchlaa

namespace Go.Proofs.Ytnbhledkdkchlaa
set_option linter.unusedVariables false
set_option linter.unusedSimpArgs false
open Go.RowKit Go.Proofs.YtnbhledkdkchlaaW.PrintWords
open PAll (info5)

/-- A message in memory. -/
structure MsgB (w : World) (mp bb bc : Nat) (tm att : Int) (id body : ByteArray) : Prop where
  cell : w.heap[mp]? = some (.cells (idC id ++ #[.slice (some ⟨bb, 0, none⟩) body.size bc, .int .i64 tm, .int .u16 att]) 74 (0, 0))
  blk : BlkR w bb bc body
  idz : id.size = 16
theorem idc_at {id : ByteArray} (h : id.size = 16) (a b c : Value) : (idC id ++ #[a, b, c])[16]? = some a ∧ (idC id ++ #[a, b, c])[17]? = some b ∧ (idC id ++ #[a, b, c])[18]? = some c := by
  have e := idC_size h
  refine ⟨?_, ?_, ?_⟩ <;> rw [Array.getElem?_append_right (by omega), e] <;> rfl
theorem MsgB.c16 {w : World} {mp bb bc : Nat} {tm att : Int} {id body : ByteArray} (h : MsgB w mp bb bc tm att id body) : w.cell? ⟨mp, 16, none⟩ = some (.slice (some ⟨bb, 0, none⟩) body.size bc) := by
  rw [blk_cell h.cell 16]
  exact (idc_at h.idz _ _ _).1
theorem MsgB.c17 {w : World} {mp bb bc : Nat} {tm att : Int} {id body : ByteArray} (h : MsgB w mp bb bc tm att id body) : w.cell? ⟨mp, 17, none⟩ = some (.int .i64 tm) := by
  rw [blk_cell h.cell 17]
  exact (idc_at h.idz _ _ _).2.1
theorem MsgB.c18 {w : World} {mp bb bc : Nat} {tm att : Int} {id body : ByteArray} (h : MsgB w mp bb bc tm att id body) : w.cell? ⟨mp, 18, none⟩ = some (.int .u16 att) := by
  rw [blk_cell h.cell 18]
  exact (idc_at h.idz _ _ _).2.2
theorem MsgB.below {w w1 : World} {mp bb bc : Nat} {tm att : Int} {id body : ByteArray} (h : MsgB w mp bb bc tm att id body) (hb : Below w.heap.size w w1) : MsgB w1 mp bb bc tm att id body :=
  ⟨blk_below h.cell hb, h.blk.move (hb.block _ h.blk.lt), h.idz⟩
theorem idC_nums (s : ByteArray) : (idC s).toList = nums .u8 (bytesOf s) := by
  unfold idC nums Lib.byteCells bytesOf
  simp
theorem MsgB.idr {w : World} {mp bb bc : Nat} {tm att : Int} {id body : ByteArray} (h : MsgB w mp bb bc tm att id body) : ReadsInt w .u8 (some ⟨mp, 0, none⟩) 16 (bytesOf id) := by
  refine reads_blk h.cell (by rw [bytesOf_length]; exact h.idz) (by decide) fun j hj => ?_
  have e := idC_size h.idz
  rw [Nat.zero_add, Array.getElem?_append_left (by omega)]
  have h1 : (idC id)[j]? = (nums .u8 (bytesOf id))[j]? := by rw [← idC_nums]; simp
  rw [h1]
  unfold nums
  have hl : j < (bytesOf id).length := by rw [bytesOf_length, h.idz]; exact hj
  rw [List.getElem?_map, List.getElem?_eq_getElem hl, List.getD_eq_getElem?_getD, List.getElem?_eq_getElem hl]
  rfl

/-- What the writing of a message carries. -/
structure MSt (w wc : World) (bp : Nat) (xs ys : List Int) : Prop where
  bf : BF wc (w.heap.size + 1) bp xs
  bk : BK w wc w.heap.size bp
  buf : Bf wc w.heap.size 119 ys
  size : w.heap.size + 1 ≤ wc.heap.size
theorem MSt.below {w wc w1 : World} {bp : Nat} {xs ys : List Int} (h : MSt w wc bp xs ys) (hb : Below wc.heap.size wc w1) : MSt w w1 bp xs ys :=
  ⟨h.bf.move hb, h.bk.trans (BK.of_below hb (by have := h.size; omega)), blk_below h.buf hb, by have := h.size; have := hb.size; omega⟩
theorem MSt.step {w wc w1 : World} {bp : Nat} {xs ys zs : List Int} (h : MSt w wc bp xs ys) (hbp : bp < w.heap.size) (hf : BF w1 (w.heap.size + 1) bp zs) (hk : BK wc w1 (w.heap.size + 1) bp) : MSt w w1 bp zs ys :=
  ⟨hf, h.bk.trans (hk.lower (by omega)), (hk.block w.heap.size (by omega) (by omega)).trans h.buf, by have := h.size; have := hk.size; omega⟩
theorem MSt.put {w wc w1 : World} {bp : Nat} {xs ys zs : List Int} (h : MSt w wc bp xs ys) (hbp : bp < w.heap.size) (hb : Bf w1 w.heap.size 119 zs) (hg : wc.grownBy w1 (some w.heap.size)) : MSt w w1 bp xs zs :=
  ⟨h.bf.grown hg (by omega) (by omega), h.bk.trans ⟨hg.os, hg.tape, hg.output, hg.size, fun k hk _ => hg.block k (by have := h.size; omega) (by intro he; injection he with he; omega)⟩, hb, by have := h.size; have := hg.size; omega⟩
theorem MSt.msg {w wc : World} {bp mp bb bc : Nat} {xs ys : List Int} {tm att : Int} {id body : ByteArray} {cs : Array Value} (h : MSt w wc bp xs ys) (hm : MsgB w mp bb bc tm att id body) (hb : w.heap[bp]? = some (.cells cs 80 (0, 0))) : MsgB wc mp bb bc tm att id body := by
  refine ⟨(h.bk.block mp (blk_lt hm.cell) (blk_ne hm.cell hb (by decide))).trans hm.cell, ?_, hm.idz⟩
  obtain ⟨cs', fr, hk⟩ := hm.blk.2.1
  exact hm.blk.move (h.bk.block _ hm.blk.lt (typed_ne hk hb (by decide)))

def zero10 : Array Value := #[.int .u8 0, .int .u8 0, .int .u8 0, .int .u8 0, .int .u8 0, .int .u8 0, .int .u8 0, .int .u8 0, .int .u8 0, .int .u8 0]
theorem big8_lit (T : Int) (h0 : 0 ≤ T) (h1 : T < 18446744073709551616) : bigL T 8 = [T / 4294967296 / 16777216, T / 4294967296 / 65536 % 256, T / 4294967296 / 256 % 256, T / 4294967296 % 256, T % 4294967296 / 16777216, T % 4294967296 / 65536 % 256, T % 4294967296 / 256 % 256, T % 4294967296 % 256] := by
  simp only [bigL, List.cons.injEq, and_true]
  refine ⟨?_, ?_, ?_, ?_, ?_, ?_, ?_, ?_⟩ <;> omega
theorem big2_lit (T : Int) (h0 : 0 ≤ T) (h1 : T < 65536) : bigL T 2 = [T / 256, T % 256] := by
  simp only [bigL, List.cons.injEq, and_true]
  refine ⟨?_, ?_⟩ <;> omega
theorem buf8 (T : Int) (h0 : 0 ≤ T) (h1 : T < 18446744073709551616) :
    set4 (set4 zero10 0 (T / 4294967296 / 16777216) (T / 4294967296 / 65536 % 256) (T / 4294967296 / 256 % 256) (T / 4294967296 % 256)) (0 + 4) (T % 4294967296 / 16777216) (T % 4294967296 / 65536 % 256) (T % 4294967296 / 256 % 256) (T % 4294967296 % 256) = (nums .u8 (bigL T 8 ++ [0, 0])).toArray := by
  rw [big8_lit T h0 h1]
  simp [set4, zero10, nums]
theorem buf10 (T v : Int) (h0 : 0 ≤ v) (h1 : v < 65536) :
    ((nums .u8 (bigL T 8 ++ [0, 0])).toArray.setIfInBounds 8 (.int .u8 (v / 256))).setIfInBounds (8 + 1) (.int .u8 (v % 256)) = (nums .u8 (bigL T 8 ++ bigL v 2)).toArray := by
  rw [big2_lit v h0 h1]
  simp [nums, bigL]

/-- A message's bytes. -/
def msgL (T att : Int) (id body : ByteArray) : List Int := bigL T 8 ++ bigL att 2 ++ bytesOf id ++ bytesOf body

set_option maxHeartbeats 2000000 in
set_option maxRecDepth 100000 in
theorem msgWrite_any {mp bb bc bp : Nat} {tm att : Int} {id body : ByteArray} (w : World) (hm : MsgB w mp bb bc tm att id body) (hb : w.heap[bp]? = some (.cells #[.slice none 0 0] 80 (0, 0)))
    (ha0 : 0 ≤ att) (ha1 : att ≤ 65535) (hbz : body.size ≤ 1000000) :
    Calls Try.prog 50 #[.pointer (some ⟨mp, 0, none⟩), .iface 78 (.pointer (some ⟨bp, 0, none⟩))] w fun e w' => CwR w bp (msgL (IntKind.u64.wrap tm) att id body) e w' := by
  obtain ⟨T, hT⟩ : ∃ T, T = IntKind.u64.wrap tm := ⟨_, rfl⟩
  have hw0 : 0 ≤ IntKind.u64.wrap tm := by rw [IntKind.wrap_u64]; omega
  have hw1 : IntKind.u64.wrap tm < 18446744073709551616 := by rw [IntKind.wrap_u64]; omega
  have hT0 : 0 ≤ T := by rw [hT]; exact hw0
  have hT1 : T < 18446744073709551616 := by rw [hT]; exact hw1
  have hlt := blk_lt hm.cell
  have hltb := blk_lt hb
  have hna := fun n w => nil_ahead n ⟨bp, 0, none⟩ w
  have hmw := fun n w => method_write n ⟨bp, 0, none⟩ w
  have HBF := Aside0.mk (BF.nil (w.heap.size + 1) hb)
  have HW0 := Aside0.mk (heap_alloc_new w (.cells zero10 119))
  have HM := Aside0.mk hm
  have HB := Aside0.mk hb
  have HLTB := Aside0.mk hltb
  have HBZ := Aside0.mk hbz
  have c17 : (w.alloc (.cells #[.int .u8 0, .int .u8 0, .int .u8 0, .int .u8 0, .int .u8 0, .int .u8 0, .int .u8 0, .int .u8 0, .int .u8 0, .int .u8 0] 119)).drew.cell? ⟨mp, 17, none⟩ = some (.int .i64 tm) := (hm.below (w1 := (w.alloc (.cells #[.int .u8 0, .int .u8 0, .int .u8 0, .int .u8 0, .int .u8 0, .int .u8 0, .int .u8 0, .int .u8 0, .int .u8 0, .int .u8 0] 119)).drew) (below_drew (below_alloc (Below.refl _ _) _))).c17
  have c17b : (w.alloc (.cells #[.int .u8 0, .int .u8 0, .int .u8 0, .int .u8 0, .int .u8 0, .int .u8 0, .int .u8 0, .int .u8 0, .int .u8 0, .int .u8 0] 119)).cell? ⟨mp, 17, none⟩ = some (.int .i64 tm) := (hm.below (w1 := w.alloc (.cells #[.int .u8 0, .int .u8 0, .int .u8 0, .int .u8 0, .int .u8 0, .int .u8 0, .int .u8 0, .int .u8 0, .int .u8 0, .int .u8 0] 119)) (below_alloc (Below.refl _ _) _)).c17
  have hzc : #[.int .u8 0, .int .u8 0, .int .u8 0, .int .u8 0, .int .u8 0, .int .u8 0, .int .u8 0, .int .u8 0, .int .u8 0, .int .u8 0] = (nums .u8 [0, 0, 0, 0, 0, 0, 0, 0, 0, 0]).toArray := rfl
  have HS0 := Aside0.mk (show MSt w (w.alloc (.cells #[.int .u8 0, .int .u8 0, .int .u8 0, .int .u8 0, .int .u8 0, .int .u8 0, .int .u8 0, .int .u8 0, .int .u8 0, .int .u8 0] 119)).drew bp [] [0, 0, 0, 0, 0, 0, 0, 0, 0, 0] from ⟨HBF.out.move (below_drew (below_alloc (Below.refl _ _) _)), BK.of_below (below_drew (below_alloc (Below.refl _ _) _)) (Nat.le_refl _), by unfold Bf; rw [← hzc]; exact heap_alloc_new w _, by simp⟩)
  have HP := Aside0.mk (put64 (g := w.heap.size) (o := 0) (n := 8) (c := 10) (t := 119) (v := IntKind.u64.wrap tm) (w.alloc (.cells #[.int .u8 0, .int .u8 0, .int .u8 0, .int .u8 0, .int .u8 0, .int .u8 0, .int .u8 0, .int .u8 0, .int .u8 0, .int .u8 0] 119)).drew (heap_alloc_new w (.cells #[.int .u8 0, .int .u8 0, .int .u8 0, .int .u8 0, .int .u8 0, .int .u8 0, .int .u8 0, .int .u8 0, .int .u8 0, .int .u8 0] 119)) (by simp) (by omega) (by omega) (by omega) (by omega))
  have HT := Aside0.mk (And.intro hT (And.intro hT0 hT1))
  clear hm hb hbz hzc
  go_enter Try.func50, Try.ntmps50
  go_upto_region 3 with fail
  go_cut [7] (fun v7 wc => v7 = .int .i64 0 ∧ Aside0 (MSt w wc bp [] (bigL T 8 ++ [0, 0])))
  case first =>
    go_region_with (go_at_call 68; (with_reducible refine (HP.out).mono ?_); rintro e w1 ⟨rfl, hb1, hg1⟩)
    all_goals
      have HS1 := Aside0.mk (show MSt w w1 bp [] (bigL T 8 ++ [0, 0]) from HS0.out.put HLTB.out (by
        unfold Bf
        rw [← buf8 T HT.out.2.1 HT.out.2.2, HT.out.1]
        exact hb1) hg1)
      clear hb1 hg1
      go_wp2_with fail
      go_meet
      exact ⟨rfl, HS1⟩
  case rest =>
    obtain ⟨rfl, HS1⟩ := hcut
    clear HP HS0 c17 c17b hlt hT
    have c18 : wc.drew.cell? ⟨mp, 18, none⟩ = some (.int .u16 att) := ((HS1.out.below (below_drew (Below.refl _ _))).msg HM.out HB.out).c18
    have HP := Aside0.mk (put16 (g := w.heap.size) (o := 8) (n := 2) (c := 2) (t := 119) (v := att) wc.drew (HS1.out.below (below_drew (Below.refl _ _))).buf (by simp [nums, bigL]) (by omega) ha0 (by omega))
    have c18b : wc.cell? ⟨mp, 18, none⟩ = some (.int .u16 att) := (HS1.out.msg HM.out HB.out).c18
    go_upto_region 4 with fail
    go_cut [7] (fun v7 w4 => v7 = .int .i64 0 ∧ Aside0 (MSt w w4 bp [] (bigL T 8 ++ bigL att 2)))
    case first =>
      go_region_with (go_at_call 69; (with_reducible refine (HP.out).mono ?_); rintro e w1 ⟨rfl, hb1, hg1⟩)
      all_goals
        have HS2 := Aside0.mk (show MSt w w1 bp [] (bigL T 8 ++ bigL att 2) from (HS1.out.below (below_drew (Below.refl _ _))).put HLTB.out (by
          unfold Bf
          rw [← buf10 T att ha0 (by omega)]
          exact hb1) hg1)
        clear hb1 hg1
        go_wp2_with fail
        go_meet
        exact ⟨rfl, HS2⟩
    case rest =>
      obtain ⟨rfl, HS2⟩ := hcut
      clear HP c18 c18b HS1
      have HW1 := Aside0.mk (fun (wi : World) (h : MSt w wi bp [] (bigL T 8 ++ bigL att 2)) => write_any wi h.bf (some ⟨w.heap.size, 0, none⟩) 10 10 (bigL T 8 ++ bigL att 2) (by
        have := h.buf.reads (by rw [List.length_append, bigL_length, bigL_length]; omega)
        rw [List.length_append, bigL_length, bigL_length] at this
        exact this) h.size (by simp))
      go_upto_region 5 with fail
      go_cut [7, 8, 9] (fun v7 v8 v9 w5 => v7 = .int .i64 0 ∧ v8 = .int .i64 10 ∧ v9 = .nilIface ∧ Aside0 (MSt w w5 bp (bigL T 8 ++ bigL att 2) (bigL T 8 ++ bigL att 2)))
      case first =>
        go_region_with (go_at_call 112; refine (HW1.out _ (by first | exact HS2.out | exact HS2.out.below (below_drew (Below.refl _ _)))).mono ?_; rintro e w1 ⟨rfl, hbf, hbk⟩)
        all_goals
          have HX := Aside0.mk (show MSt w w1 bp (bigL T 8 ++ bigL att 2) (bigL T 8 ++ bigL att 2) by
            first
            | exact HS2.out.step HLTB.out hbf hbk
            | exact (HS2.out.below (below_drew (Below.refl _ _))).step HLTB.out hbf hbk)
          clear hbf hbk
          go_wp2_with fail
          go_meet
          exact ⟨rfl, rfl, rfl, HX⟩
      case rest =>
        obtain ⟨rfl, rfl, rfl, HS3⟩ := hcut
        clear HW1 HS2
        have HW2 := Aside0.mk (fun (wi : World) (h : MSt w wi bp (bigL T 8 ++ bigL att 2) (bigL T 8 ++ bigL att 2)) => write_any wi h.bf (some ⟨mp, 0, none⟩) 16 16 (bytesOf id) ((h.msg HM.out HB.out).idr) h.size (by rw [List.length_append, bigL_length, bigL_length]; omega))
        go_wp2_with fail
        go_cut [7, 8, 9] (fun v7 v8 v9 w9 => v7 = .int .i64 10 ∧ v8 = .int .i64 16 ∧ v9 = .nilIface ∧ Aside0 (MSt w w9 bp (bigL T 8 ++ bigL att 2 ++ bytesOf id) (bigL T 8 ++ bigL att 2)))
        case first =>
          go_region_with (go_at_call 112; refine (HW2.out _ (by first | exact HS3.out | exact HS3.out.below (below_drew (Below.refl _ _)))).mono ?_; rintro e w1 ⟨rfl, hbf, hbk⟩)
          all_goals
            have HX := Aside0.mk (show MSt w w1 bp (bigL T 8 ++ bigL att 2 ++ bytesOf id) (bigL T 8 ++ bigL att 2) by
              first
              | exact HS3.out.step HLTB.out hbf hbk
              | exact (HS3.out.below (below_drew (Below.refl _ _))).step HLTB.out hbf hbk)
            clear hbf hbk
            go_wp2_with fail
            go_meet
            exact ⟨rfl, rfl, rfl, HX⟩
        case rest =>
          obtain ⟨rfl, rfl, rfl, HS4⟩ := hcut
          clear HW2 HS3
          have HID := Aside0.mk HM.out.idz
          have HW3 := Aside0.mk (fun (wi : World) (h : MSt w wi bp (bigL T 8 ++ bigL att 2 ++ bytesOf id) (bigL T 8 ++ bigL att 2)) => write_any wi h.bf (some ⟨bb, 0, none⟩) body.size bc (bytesOf body) ((h.msg HM.out HB.out).blk).2.2 h.size (by rw [List.length_append, List.length_append, bigL_length, bigL_length, bytesOf_length, HID.out]; have := HBZ.out; omega))
          have c16 : wc.drew.cell? ⟨mp, 16, none⟩ = some (.slice (some ⟨bb, 0, none⟩) body.size bc) := ((HS4.out.below (below_drew (Below.refl _ _))).msg HM.out HB.out).c16
          have c16b : wc.cell? ⟨mp, 16, none⟩ = some (.slice (some ⟨bb, 0, none⟩) body.size bc) := (HS4.out.msg HM.out HB.out).c16
          have hbzi : (body.size : Int) ≤ 1000000 := by have := HBZ.out; omega
          go_wp2_with fail
          go_region_with (go_at_call 112; refine (HW3.out _ (by first | exact HS4.out | exact HS4.out.below (below_drew (Below.refl _ _)))).mono ?_; rintro e w1 ⟨rfl, hbf, hbk⟩)
          all_goals
            have HX := Aside0.mk (show MSt w w1 bp (msgL T att id body) (bigL T 8 ++ bigL att 2) by
              first
              | exact HS4.out.step HLTB.out hbf hbk
              | exact (HS4.out.below (below_drew (Below.refl _ _))).step HLTB.out hbf hbk)
            clear hbf hbk
            go_wp2_with fail
            go_ret2
            rw [← HT.out.1]
            refine ⟨?_, HX.out.bf, HX.out.bk⟩
            have e : ((msgL T att id body).length : Int) = 26 + (body.size : Int) := by
              have hi := HID.out
              have h1 := bytesOf_length id
              have h2 := bytesOf_length body
              unfold msgL
              rw [List.length_append, List.length_append, List.length_append, bigL_length, bigL_length]
              omega
            rw [e]
            rfl
end Go.Proofs.Ytnbhledkdkchlaa

namespace Go.Proofs.Ytnbhledkdkchlaa
set_option linter.unusedVariables false
set_option linter.unusedSimpArgs false
open Go.RowKit Go.Proofs.YtnbhledkdkchlaaW.PrintWords
open PAll (info5)

set_option maxHeartbeats 2000000 in
set_option maxRecDepth 100000 in
theorem messageWrite_any (tm att : Int) (id body : ByteArray) (w : World) (hid : id.size = 16) (ha0 : 0 ≤ att) (ha1 : att ≤ 65535) (hbz : body.size ≤ 1000000) :
    Calls Try.prog 30 #[.agg #[.int .i64 tm, .int .i64 att, .string id, .string body]] w fun e w' =>
      e = .returned (.tuple #[.string (strOfNums (msgL (IntKind.u64.wrap tm) att id body)), .int .i64 0]) ∧ Below w.heap.size w w' := by
  have hidi : (id.size : Int) = 16 := by omega
  obtain ⟨T, hT⟩ : ∃ T, T = msgL (IntKind.u64.wrap tm) att id body := ⟨_, rfl⟩
  rw [← hT]
  have HT := Aside0.mk hT
  clear hT
  have hu16 : IntKind.u16.wrap att = att := by rw [IntKind.wrap_u16]; omega
  have hbx : ((w.alloc (.cells #[.int .i64 tm, .int .i64 att, .string id, .string body] 28)).alloc (.cells #[.slice none 0 0] 80)).heap[w.heap.size]? = some (.cells #[.int .i64 tm, .int .i64 att, .string id, .string body] 28 (0, 0)) := by rw [Below.heap_alloc _ _ _ (by simp)]; exact heap_alloc_new w _
  have hbp : ((w.alloc (.cells #[.int .i64 tm, .int .i64 att, .string id, .string body] 28)).alloc (.cells #[.slice none 0 0] 80)).heap[w.heap.size + 1]? = some (.cells #[.slice none 0 0] 80 (0, 0)) := by
    have := heap_alloc_new (w.alloc (.cells #[.int .i64 tm, .int .i64 att, .string id, .string body] 28)) (.cells #[.slice none 0 0] 80)
    rwa [World.size_alloc] at this
  have HK := Aside0.mk (fun (wi : World) (hb : Below ((w.alloc (.cells #[.int .i64 tm, .int .i64 att, .string id, .string body] 28)).alloc (.cells #[.slice none 0 0] 80)).heap.size ((w.alloc (.cells #[.int .i64 tm, .int .i64 att, .string id, .string body] 28)).alloc (.cells #[.slice none 0 0] 80)) wi) => show wi.cell? ⟨w.heap.size, 0, none⟩ = some (.int .i64 tm) ∧ wi.cell? ⟨w.heap.size, 1, none⟩ = some (.int .i64 att) ∧ wi.cell? ⟨w.heap.size, 2, none⟩ = some (.string id) ∧ wi.cell? ⟨w.heap.size, 3, none⟩ = some (.string body) ∧ Below ((w.alloc (.cells #[.int .i64 tm, .int .i64 att, .string id, .string body] 28)).alloc (.cells #[.slice none 0 0] 80)).heap.size ((w.alloc (.cells #[.int .i64 tm, .int .i64 att, .string id, .string body] 28)).alloc (.cells #[.slice none 0 0] 80)) wi from
    ⟨blk_cell (blk_below hbx hb) 0, blk_cell (blk_below hbx hb) 1, blk_cell (blk_below hbx hb) 2, blk_cell (blk_below hbx hb) 3, hb⟩)
  obtain ⟨a0, a1, a2, a3, a4, a5, a6, a7, a8, a9, a10, a11, a12, a13, a14, a15, hI⟩ := idC_lit id hid
  have HI : Aside0 (∀ wi : World, Calls Try.prog 49 #[.string id] wi fun e w' => e = .returned (.agg #[.int .u8 a0, .int .u8 a1, .int .u8 a2, .int .u8 a3, .int .u8 a4, .int .u8 a5, .int .u8 a6, .int .u8 a7, .int .u8 a8, .int .u8 a9, .int .u8 a10, .int .u8 a11, .int .u8 a12, .int .u8 a13, .int .u8 a14, .int .u8 a15]) ∧ Below wi.heap.size wi w') := ⟨fun wi => by rw [← hI]; exact identity_any id wi hid⟩
  have HII := Aside0.mk hI
  have HBP := Aside0.mk hbp
  have HBZ := Aside0.mk hbz
  have HID := Aside0.mk hid
  have HBW := Aside0.mk (show Below w.heap.size w ((w.alloc (.cells #[.int .i64 tm, .int .i64 att, .string id, .string body] 28)).alloc (.cells #[.slice none 0 0] 80)) from below_alloc (below_alloc (Below.refl _ _) _) _)
  have hbs := fun s w => print_bytes (P := Try.prog) 9 69 5 Try.underlying9 Try.underlying69 Try.underlying5 s w
  clear hbx hbp hid hbz hI
  go_enter Try.func30, Try.ntmps30
  go_upto_region 4 with fail
  go_cut [4, 5] (fun v4 v5 wc => ∃ mp bb bc : Nat, v4 = .pointer (some ⟨w.heap.size + 1, 0, none⟩) ∧ v5 = .pointer (some ⟨mp, 0, none⟩) ∧ Aside0 (MsgB wc mp bb bc tm att id body) ∧ Aside0 (Below ((w.alloc (.cells #[.int .i64 tm, .int .i64 att, .string id, .string body] 28)).alloc (.cells #[.slice none 0 0] 80)).heap.size ((w.alloc (.cells #[.int .i64 tm, .int .i64 att, .string id, .string body] 28)).alloc (.cells #[.slice none 0 0] 80)) wc))
  case first =>
    refine wp_region_held_drew (S := fun wi : World => wi.cell? ⟨w.heap.size, 0, none⟩ = some (.int .i64 tm) ∧ wi.cell? ⟨w.heap.size, 1, none⟩ = some (.int .i64 att) ∧ wi.cell? ⟨w.heap.size, 2, none⟩ = some (.string id) ∧ wi.cell? ⟨w.heap.size, 3, none⟩ = some (.string body) ∧ Below ((w.alloc (.cells #[.int .i64 tm, .int .i64 att, .string id, .string body] 28)).alloc (.cells #[.slice none 0 0] 80)).heap.size ((w.alloc (.cells #[.int .i64 tm, .int .i64 att, .string id, .string body] 28)).alloc (.cells #[.slice none 0 0] 80)) wi) (by kernel_rfl) (HK.out _ (below_drew (Below.refl _ _))) (fun hH => ?_)
    refine wpAnyH_take (i := 0) (oi := { dst := some 24, op := Go.Op.fieldAddr 28 (Go.Operand.tmp 1) 2, type := 0, pos := "nsq.go:172", after := #[], guard := none }) (v := .pointer (some ⟨w.heap.size, 2, none⟩)) rfl (by kernel_rfl) (by kernel_rfl) (by kernel_rfl) (fun _ _ _ h => h) (Or.inl ⟨by rfl, ?_⟩) (by assumption) ?_
    · intro wi hSw
      obtain ⟨hs0, hs1, hs2, hs3, -⟩ := hSw
      go_simp
    try simp only [Act.put, List.setIfInBounds_toArray, List.set_cons_zero, List.set_cons_succ]
    refine wpAnyH_take (i := 1) (oi := { dst := some 25, op := Go.Op.load 9 (Go.Operand.tmp 24), type := 9, pos := "nsq.go:172", after := #[{ on := 0, ground := Go.Ground.data }], guard := none }) (v := .string id) rfl (by kernel_rfl) (by kernel_rfl) (by kernel_rfl) (fun _ _ _ h => h) (Or.inl ⟨by rfl, ?_⟩) (by assumption) ?_
    · intro wi hSw
      obtain ⟨hs0, hs1, hs2, hs3, -⟩ := hSw
      go_simp
    try simp only [Act.put, List.setIfInBounds_toArray, List.set_cons_zero, List.set_cons_succ]
    refine wpAnyH_take (i := 3) (oi := { dst := some 27, op := Go.Op.fieldAddr 28 (Go.Operand.tmp 1) 3, type := 0, pos := "nsq.go:172", after := #[], guard := none }) (v := .pointer (some ⟨w.heap.size, 3, none⟩)) rfl (by kernel_rfl) (by kernel_rfl) (by kernel_rfl) (fun _ _ _ h => h) (Or.inl ⟨by rfl, ?_⟩) (by assumption) ?_
    · intro wi hSw
      obtain ⟨hs0, hs1, hs2, hs3, -⟩ := hSw
      go_simp
    try simp only [Act.put, List.setIfInBounds_toArray, List.set_cons_zero, List.set_cons_succ]
    refine wpAnyH_take (i := 4) (oi := { dst := some 28, op := Go.Op.load 9 (Go.Operand.tmp 27), type := 9, pos := "nsq.go:172", after := #[{ on := 3, ground := Go.Ground.data }], guard := none }) (v := .string body) rfl (by kernel_rfl) (by kernel_rfl) (by kernel_rfl) (fun _ _ _ h => h) (Or.inl ⟨by rfl, ?_⟩) (by assumption) ?_
    · intro wi hSw
      obtain ⟨hs0, hs1, hs2, hs3, -⟩ := hSw
      go_simp
    try simp only [Act.put, List.setIfInBounds_toArray, List.set_cons_zero, List.set_cons_succ]
    refine wpAnyH_take (i := 6) (oi := { dst := some 30, op := Go.Op.fieldAddr 28 (Go.Operand.tmp 1) 0, type := 0, pos := "nsq.go:172", after := #[], guard := none }) (v := .pointer (some ⟨w.heap.size, 0, none⟩)) rfl (by kernel_rfl) (by kernel_rfl) (by kernel_rfl) (fun _ _ _ h => h) (Or.inl ⟨by rfl, ?_⟩) (by assumption) ?_
    · intro wi hSw
      obtain ⟨hs0, hs1, hs2, hs3, -⟩ := hSw
      go_simp
    try simp only [Act.put, List.setIfInBounds_toArray, List.set_cons_zero, List.set_cons_succ]
    refine wpAnyH_take (i := 7) (oi := { dst := some 31, op := Go.Op.load 2 (Go.Operand.tmp 30), type := 2, pos := "nsq.go:172", after := #[{ on := 6, ground := Go.Ground.data }], guard := none }) (v := .int .i64 tm) rfl (by kernel_rfl) (by kernel_rfl) (by kernel_rfl) (fun _ _ _ h => h) (Or.inl ⟨by rfl, ?_⟩) (by assumption) ?_
    · intro wi hSw
      obtain ⟨hs0, hs1, hs2, hs3, -⟩ := hSw
      go_simp
    try simp only [Act.put, List.setIfInBounds_toArray, List.set_cons_zero, List.set_cons_succ]
    refine wpAnyH_take (i := 8) (oi := { dst := some 32, op := Go.Op.fieldAddr 28 (Go.Operand.tmp 1) 1, type := 0, pos := "nsq.go:172", after := #[], guard := none }) (v := .pointer (some ⟨w.heap.size, 1, none⟩)) rfl (by kernel_rfl) (by kernel_rfl) (by kernel_rfl) (fun _ _ _ h => h) (Or.inl ⟨by rfl, ?_⟩) (by assumption) ?_
    · intro wi hSw
      obtain ⟨hs0, hs1, hs2, hs3, -⟩ := hSw
      go_simp
    try simp only [Act.put, List.setIfInBounds_toArray, List.set_cons_zero, List.set_cons_succ]
    refine wpAnyH_take (i := 9) (oi := { dst := some 33, op := Go.Op.load 3 (Go.Operand.tmp 32), type := 3, pos := "nsq.go:172", after := #[{ on := 8, ground := Go.Ground.data }], guard := none }) (v := .int .i64 att) rfl (by kernel_rfl) (by kernel_rfl) (by kernel_rfl) (fun _ _ _ h => h) (Or.inl ⟨by rfl, ?_⟩) (by assumption) ?_
    · intro wi hSw
      obtain ⟨hs0, hs1, hs2, hs3, -⟩ := hSw
      go_simp
    try simp only [Act.put, List.setIfInBounds_toArray, List.set_cons_zero, List.set_cons_succ]
    refine wpAnyH_take (i := 10) (oi := { dst := some 34, op := Go.Op.convert 3 72 (Go.Operand.tmp 33), type := 72, pos := "nsq.go:172", after := #[{ on := 9, ground := Go.Ground.data }], guard := none }) (v := .int .u16 att) rfl (by kernel_rfl) (by kernel_rfl) (by kernel_rfl) (fun _ _ _ h => h) (Or.inl ⟨by rfl, ?_⟩) (by assumption) ?_
    · intro wi hSw
      obtain ⟨hs0, hs1, hs2, hs3, -⟩ := hSw
      go_simp
    try simp only [Act.put, List.setIfInBounds_toArray, List.set_cons_zero, List.set_cons_succ]
    refine wpAnyH_ready (rs := [2, 5]) (by kernel_rfl) (by simp) ?_
    refine AllReadyH.cons (o := { dst := some 26, op := Go.Op.call { callee := Go.Callee.value (Go.Operand.func 49), args := #[Go.Operand.tmp 25], argTypes := #[9] }, type := 71, pos := "nsq.go:172", after := #[{ on := 1, ground := Go.Ground.data }], guard := none }) rfl (fun K hK => ?_) (AllReadyH.cons (o := { dst := some 29, op := Go.Op.convert 9 69 (Go.Operand.tmp 28), type := 69, pos := "nsq.go:172", after := #[{ on := 4, ground := Go.Ground.data }], guard := none }) rfl (fun K hK => ?_) AllReadyH.nil)
    · go_simp
      go_wp2_with fail
      refine (HI.out _).mono ?_
      rintro e w2 ⟨rfl, hb2⟩
      have HB2 := Aside0.mk (show Below ((w.alloc (.cells #[.int .i64 tm, .int .i64 att, .string id, .string body] 28)).alloc (.cells #[.slice none 0 0] 80)).heap.size ((w.alloc (.cells #[.int .i64 tm, .int .i64 att, .string id, .string body] 28)).alloc (.cells #[.slice none 0 0] 80)) w2 from (below_drew (Below.refl _ _)).trans (hb2.mono (Nat.le_refl _)))
      clear hb2
      go_wp2_with fail
      refine hK.out _ _ (HK.out _ HB2.out) (fun hHn => ?_)
      clear hK K hH
      try simp only [Act.put, List.setIfInBounds_toArray, List.set_cons_zero, List.set_cons_succ]
      refine wpAnyH_ready (rs := [5]) (by kernel_rfl) (by simp) ?_
      refine AllReadyH.cons (o := { dst := some 29, op := Go.Op.convert 9 69 (Go.Operand.tmp 28), type := 69, pos := "nsq.go:172", after := #[{ on := 4, ground := Go.Ground.data }], guard := none }) rfl (fun K hK => ?_) AllReadyH.nil
      go_simp
      have HB3 := Aside0.mk (bytes_below HB2.out HB2.out.size 5 body)
      refine hK.out _ _ (HK.out _ HB3.out) (fun hH => ?_)
      clear hK K hHn
      try simp only [Act.put, List.setIfInBounds_toArray, List.set_cons_zero, List.set_cons_succ]
      refine wpAnyH_take (i := 11) (oi := { dst := some 35, op := Go.Op.build 74 #[(0, Go.Operand.tmp 26), (1, Go.Operand.tmp 29), (2, Go.Operand.tmp 31), (3, Go.Operand.tmp 34)], type := 74, pos := "nsq.go:172", after := #[{ on := 2, ground := Go.Ground.data }, { on := 5, ground := Go.Ground.data }, { on := 7, ground := Go.Ground.data }, { on := 10, ground := Go.Ground.data }], guard := none }) (v := .agg #[.int .u8 a0, .int .u8 a1, .int .u8 a2, .int .u8 a3, .int .u8 a4, .int .u8 a5, .int .u8 a6, .int .u8 a7, .int .u8 a8, .int .u8 a9, .int .u8 a10, .int .u8 a11, .int .u8 a12, .int .u8 a13, .int .u8 a14, .int .u8 a15, .slice (some ⟨w2.heap.size, 0, none⟩) body.size (grownCap w2 body.size 0 5), .int .i64 tm, .int .u16 att]) rfl (by kernel_rfl) (by kernel_rfl) (by kernel_rfl) (fun _ _ _ h => h) (Or.inl ⟨by rfl, ?_⟩) (by assumption) ?_
      · intro wi hSw
        obtain ⟨hs0, hs1, hs2, hs3, -⟩ := hSw
        go_simp
      try simp only [Act.put, List.setIfInBounds_toArray, List.set_cons_zero, List.set_cons_succ]
      refine wpAnyH_ready (rs := [12]) (by kernel_rfl) (by simp) ?_
      refine AllReadyH.cons (o := { dst := some 36, op := Go.Op.box 74 (Go.Operand.tmp 35), type := 64, pos := "nsq.go:172", after := #[{ on := 11, ground := Go.Ground.data }], guard := none }) rfl (fun K hK => ?_) AllReadyH.nil
      go_simp
      refine hK.out _ _ (HK.out _ (below_alloc HB3.out _)) (fun hHz => ?_)
      clear hK K hH
      try simp only [Act.put, List.setIfInBounds_toArray, List.set_cons_zero, List.set_cons_succ]
      refine wpAnyH_take (i := 13) (oi := { dst := some 5, op := Go.Op.assign (Go.Operand.tmp 36), type := 64, pos := "nsq.go:172", after := #[{ on := 12, ground := Go.Ground.data }, { on := 2, ground := Go.Ground.chain }, { on := 0, ground := Go.Ground.phase }, { on := 1, ground := Go.Ground.phase }, { on := 2, ground := Go.Ground.phase }, { on := 3, ground := Go.Ground.phase }, { on := 4, ground := Go.Ground.phase }, { on := 5, ground := Go.Ground.phase }, { on := 6, ground := Go.Ground.phase }, { on := 7, ground := Go.Ground.phase }, { on := 8, ground := Go.Ground.phase }, { on := 9, ground := Go.Ground.phase }, { on := 10, ground := Go.Ground.phase }, { on := 11, ground := Go.Ground.phase }, { on := 12, ground := Go.Ground.phase }], guard := none }) (v := .pointer (some ⟨(Lib.bytesWorld w2 5 body).heap.size, 0, none⟩)) rfl (by kernel_rfl) (by kernel_rfl) (by kernel_rfl) (fun _ _ _ h => h) (Or.inl ⟨by rfl, ?_⟩) (by assumption) ?_
      · intro wi hSw
        obtain ⟨hs0, hs1, hs2, hs3, -⟩ := hSw
        go_simp
      try simp only [Act.put, List.setIfInBounds_toArray, List.set_cons_zero, List.set_cons_succ]
      refine wpAnyH_done (by kernel_rfl) ?_ _
      go_wp2_with fail
      go_meet
      exact ⟨_, _, _, rfl, rfl, ⟨⟨by rw [HII.out]; exact heap_alloc_new _ _, (BlkR.new w2 body (by have := HBZ.out; omega)).move (Below.heap_alloc _ _ _ (by rw [Lib.bytesWorld_size]; omega)), HID.out⟩⟩, ⟨below_alloc HB3.out _⟩⟩
    · go_simp
      have HB3 := Aside0.mk (bytes_below (below_drew (Below.refl ((w.alloc (.cells #[.int .i64 tm, .int .i64 att, .string id, .string body] 28)).alloc (.cells #[.slice none 0 0] 80)).heap.size ((w.alloc (.cells #[.int .i64 tm, .int .i64 att, .string id, .string body] 28)).alloc (.cells #[.slice none 0 0] 80)))) (Nat.le_refl _) 5 body)
      refine hK.out _ _ (HK.out _ HB3.out) (fun hHn => ?_)
      clear hK K hH
      try simp only [Act.put, List.setIfInBounds_toArray, List.set_cons_zero, List.set_cons_succ]
      refine wpAnyH_ready (rs := [2]) (by kernel_rfl) (by simp) ?_
      refine AllReadyH.cons (o := { dst := some 26, op := Go.Op.call { callee := Go.Callee.value (Go.Operand.func 49), args := #[Go.Operand.tmp 25], argTypes := #[9] }, type := 71, pos := "nsq.go:172", after := #[{ on := 1, ground := Go.Ground.data }], guard := none }) rfl (fun K hK => ?_) AllReadyH.nil
      go_simp
      go_wp2_with fail
      refine (HI.out _).mono ?_
      rintro e w2 ⟨rfl, hb2⟩
      have HB2 := Aside0.mk (HB3.out.trans (hb2.mono HB3.out.size))
      have HX2 := Aside0.mk hb2
      clear hb2
      go_wp2_with fail
      have HQ := Aside0.mk (show BlkR w2 (w.heap.size + 1 + 1) (grownCap ((w.alloc (.cells #[.int .i64 tm, .int .i64 att, .string id, .string body] 28)).alloc (.cells #[.slice none 0 0] 80)).drew body.size 0 5) body by
        have hq := (BlkR.new ((w.alloc (.cells #[.int .i64 tm, .int .i64 att, .string id, .string body] 28)).alloc (.cells #[.slice none 0 0] 80)).drew body (by have := HBZ.out; omega)).move (HX2.out.block _ (by rw [Lib.bytesWorld_size]; omega))
        have hz : ((w.alloc (.cells #[.int .i64 tm, .int .i64 att, .string id, .string body] 28)).alloc (.cells #[.slice none 0 0] 80)).drew.heap.size = w.heap.size + 1 + 1 := by simp
        rwa [hz] at hq)
      refine hK.out _ _ (HK.out _ HB2.out) (fun hH => ?_)
      clear hK K hHn
      try simp only [Act.put, List.setIfInBounds_toArray, List.set_cons_zero, List.set_cons_succ]
      refine wpAnyH_take (i := 11) (oi := { dst := some 35, op := Go.Op.build 74 #[(0, Go.Operand.tmp 26), (1, Go.Operand.tmp 29), (2, Go.Operand.tmp 31), (3, Go.Operand.tmp 34)], type := 74, pos := "nsq.go:172", after := #[{ on := 2, ground := Go.Ground.data }, { on := 5, ground := Go.Ground.data }, { on := 7, ground := Go.Ground.data }, { on := 10, ground := Go.Ground.data }], guard := none }) (v := .agg #[.int .u8 a0, .int .u8 a1, .int .u8 a2, .int .u8 a3, .int .u8 a4, .int .u8 a5, .int .u8 a6, .int .u8 a7, .int .u8 a8, .int .u8 a9, .int .u8 a10, .int .u8 a11, .int .u8 a12, .int .u8 a13, .int .u8 a14, .int .u8 a15, .slice (some ⟨w.heap.size + 1 + 1, 0, none⟩) body.size (grownCap ((w.alloc (.cells #[.int .i64 tm, .int .i64 att, .string id, .string body] 28)).alloc (.cells #[.slice none 0 0] 80)).drew body.size 0 5), .int .i64 tm, .int .u16 att]) rfl (by kernel_rfl) (by kernel_rfl) (by kernel_rfl) (fun _ _ _ h => h) (Or.inl ⟨by rfl, ?_⟩) (by assumption) ?_
      · intro wi hSw
        obtain ⟨hs0, hs1, hs2, hs3, -⟩ := hSw
        go_simp
      try simp only [Act.put, List.setIfInBounds_toArray, List.set_cons_zero, List.set_cons_succ]
      refine wpAnyH_ready (rs := [12]) (by kernel_rfl) (by simp) ?_
      refine AllReadyH.cons (o := { dst := some 36, op := Go.Op.box 74 (Go.Operand.tmp 35), type := 64, pos := "nsq.go:172", after := #[{ on := 11, ground := Go.Ground.data }], guard := none }) rfl (fun K hK => ?_) AllReadyH.nil
      go_simp
      refine hK.out _ _ (HK.out _ (below_alloc HB2.out _)) (fun hHz => ?_)
      clear hK K hH
      try simp only [Act.put, List.setIfInBounds_toArray, List.set_cons_zero, List.set_cons_succ]
      refine wpAnyH_take (i := 13) (oi := { dst := some 5, op := Go.Op.assign (Go.Operand.tmp 36), type := 64, pos := "nsq.go:172", after := #[{ on := 12, ground := Go.Ground.data }, { on := 2, ground := Go.Ground.chain }, { on := 0, ground := Go.Ground.phase }, { on := 1, ground := Go.Ground.phase }, { on := 2, ground := Go.Ground.phase }, { on := 3, ground := Go.Ground.phase }, { on := 4, ground := Go.Ground.phase }, { on := 5, ground := Go.Ground.phase }, { on := 6, ground := Go.Ground.phase }, { on := 7, ground := Go.Ground.phase }, { on := 8, ground := Go.Ground.phase }, { on := 9, ground := Go.Ground.phase }, { on := 10, ground := Go.Ground.phase }, { on := 11, ground := Go.Ground.phase }, { on := 12, ground := Go.Ground.phase }], guard := none }) (v := .pointer (some ⟨(w2).heap.size, 0, none⟩)) rfl (by kernel_rfl) (by kernel_rfl) (by kernel_rfl) (fun _ _ _ h => h) (Or.inl ⟨by rfl, ?_⟩) (by assumption) ?_
      · intro wi hSw
        obtain ⟨hs0, hs1, hs2, hs3, -⟩ := hSw
        go_simp
      try simp only [Act.put, List.setIfInBounds_toArray, List.set_cons_zero, List.set_cons_succ]
      refine wpAnyH_done (by kernel_rfl) ?_ _
      go_wp2_with fail
      go_meet
      exact ⟨_, _, _, rfl, rfl, ⟨⟨by rw [HII.out]; exact heap_alloc_new _ _, HQ.out.move (Below.heap_alloc _ _ _ HQ.out.lt), HID.out⟩⟩, ⟨below_alloc HB2.out _⟩⟩
  case rest =>
    obtain ⟨mp, bb, bc, rfl, rfl, HMB, HBC⟩ := hcut
    have HBP2 := Aside0.mk (blk_below HBP.out HBC.out)
    have HB3 := Aside0.mk (HBW.out.trans (HBC.out.mono (by simp; omega)))
    have HS3 := Aside0.mk (show w.heap.size + 2 ≤ wc.heap.size by have := HBC.out.size; simpa using this)
    have HWR := Aside0.mk (msgWrite_any wc HMB.out HBP2.out ha0 ha1 HBZ.out)
    have hmz : (msgL (IntKind.u64.wrap tm) att id body).length ≤ 100000000 := by
      have hi := HID.out
      have h1 := bytesOf_length id
      have h2 := bytesOf_length body
      have h3 := HBZ.out
      unfold msgL
      rw [List.length_append, List.length_append, List.length_append, bigL_length, bigL_length]
      omega
    rw [← HT.out] at hmz HWR
    clear HK HI hbs HBP HMB HII hu16
    go_wp2_with fail
    refine (HWR.out).mono ?_
    rintro e w4 ⟨rfl, ⟨v, hv, hown⟩, hbk⟩
    have HB4 := Aside0.mk (show Below w.heap.size w w4 from ⟨hbk.os.trans HB3.out.os, hbk.tape.trans HB3.out.tape, hbk.output.trans HB3.out.output, Nat.le_trans HB3.out.size hbk.size, fun k hk => (hbk.block k (by have := HS3.out; omega) (by omega)).trans (HB3.out.block k hk)⟩)
    obtain ⟨A4, c4, rfl, hrd⟩ := own_reads hown
    have hc4 := blk_cell hv 0
    have hcv := string_of_reads (P := Try.prog) (w := w4) (c := c4) Try.underlying69 Try.underlying5 Try.underlying9 hrd
    clear hown hbk hv HWR HS3 hrd HB3 HBC HBP2
    go_wp2_with fail
    go_ret2
    exact ⟨rfl, HB4.out⟩
end Go.Proofs.Ytnbhledkdkchlaa

namespace Go.Proofs.Ytnbhledkdkchlaa
set_option linter.unusedVariables false
set_option linter.unusedSimpArgs false
open Go.RowKit Go.Proofs.YtnbhledkdkchlaaW.PrintWords

set_option maxHeartbeats 1000000 in
set_option maxRecDepth 100000 in
/-- source.Uint64. -/
theorem uint64_any {A : Option Addr} {c : Nat} {l : List Int} (w : World) (hr : ReadsInt w .u8 A l.length l) (hc : l.length ≤ c) (h : 8 ≤ l.length) (hb : ∀ x ∈ l, 0 ≤ x ∧ x ≤ 255) :
    Calls Try.prog 63 #[.slice A l.length c] w fun e w' => e = .returned (.int .u64 (be (l.take 8))) ∧ Drawn0 w w' := by
  obtain ⟨i, hi, hz⟩ := Option.map_eq_some_iff.1 (PAll.info5)
  simp only [Prod.mk.injEq] at hz
  obtain ⟨A', h1, h2⟩ := print_cut (P := Try.prog) 69 5 .i64 Try.underlying69 hi hz.2.1 A l.length c 4 (by omega)
  obtain ⟨ys, hys⟩ : ∃ ys, l.drop 4 = ys := ⟨_, rfl⟩
  have hyl : ys.length = l.length - 4 := by rw [← hys, List.length_drop]
  have hcut : ∀ W : World, (Instr.slice 69 (.slice A l.length c) (some (.int .i64 4)) none none).run Try.prog W = .ok (.slice A' ys.length (c - 4)) W := by rw [hyl]; exact h1
  have hrd := h2 w .u8 l hc hr
  rw [hys, ← hyl] at hrd
  have hby : ∀ x ∈ ys, 0 ≤ x ∧ x ≤ 255 := by intro x hx; rw [← hys] at hx; exact hb x (List.mem_of_mem_drop hx)
  have HQ1 := Aside0.mk (fun n => quiet32 (W := w) hr hc (by omega) hb n)
  have HQ2 := Aside0.mk (fun n => quiet32 (W := w) (c' := c - 4) hrd (by omega) (by omega) hby n)
  have b1 := be_range (l.take 4) (fun x hx => hb x (List.mem_of_mem_take hx))
  have b2 := be_range (ys.take 4) (fun x hx => hby x (List.mem_of_mem_take hx))
  rw [List.length_take, Nat.min_eq_left (by omega)] at b1 b2
  have hval : be (l.take 8) = be (l.take 4) * 4294967296 + be (ys.take 4) := by
    obtain ⟨a0, a1, a2, a3, r, rfl⟩ := four l (by omega)
    have hr4 : 4 ≤ r.length := by simp only [List.length_cons] at h; omega
    obtain ⟨a4, a5, a6, a7, r', rfl⟩ := four r hr4
    simp only [List.drop_succ_cons, List.drop_zero] at hys
    subst hys
    simp only [List.take_succ_cons, List.take_zero, be8, be4]
    omega
  have hor := or64 (be (l.take 4)) (be (ys.take 4)) b1.1 b1.2 b2.1 b2.2
  have c0 : 0 ≤ be (l.take 4) := b1.1
  have c1 : be (l.take 4) < 4294967296 := b1.2
  have c2 : 0 ≤ be (ys.take 4) := b2.1
  have c3 : be (ys.take 4) < 4294967296 := b2.2
  rw [hval]
  generalize be (l.take 4) = p at *
  generalize be (ys.take 4) = q at *
  clear hrd hby h1 h2 hr hb hval b1 b2 hys hyl hc h
  go_enter Try.func63, Try.ntmps63
  go_wp2
  go_quiet ((go_at_call 72; first | (with_reducible exact HQ1.out _) | (with_reducible exact HQ2.out _)))
  go_wp2
  go_ret
  exact ⟨rfl, (Drawn0.refl w).step _⟩
theorem quiet64 {W : World} {A' : Option Addr} {c' : Nat} {ys : List Int} (hr : ReadsInt W .u8 A' ys.length ys) (hc : ys.length ≤ c') (h2 : 8 ≤ ys.length) (hb : ∀ x ∈ ys, 0 ≤ x ∧ x ≤ 255) (n : Nat) :
    Calls Try.prog 63 #[.slice A' ys.length c'] (W.drewN n) fun e w' => e = .returned (.int .u64 (be (ys.take 8))) ∧ ∃ m, w' = W.drewN m :=
  Calls.quiet_of ((uint64_any (W.drewN n) (hr.drewN n) hc h2 hb).mono fun _ _ ⟨he, hd⟩ => ⟨he, hd.out⟩)

end Go.Proofs.Ytnbhledkdkchlaa

namespace Go.Proofs.Ytnbhledkdkchlaa
set_option linter.unusedVariables false
set_option linter.unusedSimpArgs false
open Go.RowKit Go.Proofs.YtnbhledkdkchlaaW.PrintWords
open PAll (info5)

theorem sixteen (l : List Int) (h : l.length = 16) : ∃ i0 i1 i2 i3 i4 i5 i6 i7 i8 i9 i10 i11 i12 i13 i14 i15 : Int, l = [i0, i1, i2, i3, i4, i5, i6, i7, i8, i9, i10, i11, i12, i13, i14, i15] := by
  match l, h with
  | [i0, i1, i2, i3, i4, i5, i6, i7, i8, i9, i10, i11, i12, i13, i14, i15], _ => exact ⟨_, _, _, _, _, _, _, _, _, _, _, _, _, _, _, _, rfl⟩
/-- What DecodeMessage answers. -/
def DecR (b : Nat) (ids : List Int) (T V : Int) (n c : Nat) (ys : List Int) (w : World) (e : Ending) (w' : World) : Prop :=
  ∃ A' : Option Addr, e = .returned (.tuple #[.pointer (some ⟨w.heap.size, 0, none⟩), .nilIface]) ∧ Below w.heap.size w w' ∧ w'.heap[w.heap.size]? = some (.cells ((nums .u8 ids).toArray ++ #[.slice A' (n - 26) (c - 26), .int .i64 T, .int .u16 V]) 74 (0, 0)) ∧ ReadsInt w' .u8 A' (n - 26) ys ∧ ∀ ad, A' = some ad → ad.block = b

set_option maxHeartbeats 4000000 in
set_option maxRecDepth 100000 in
theorem decode_any (b c : Nat) (xs : List Int) (w : World) (hr : ReadsInt w .u8 (some ⟨b, 0, none⟩) xs.length xs) (hc : xs.length ≤ c) (hn : 26 ≤ xs.length) (hz : xs.length ≤ 1000000000) (hby : ∀ x ∈ xs, 0 ≤ x ∧ x ≤ 255) (hb : b < w.heap.size) :
    Calls Try.prog 42 #[.slice (some ⟨b, 0, none⟩) xs.length c] w fun e w' => DecR b ((xs.drop 10).take 16) (IntKind.i64.wrap (be (xs.take 8))) (be ((xs.drop 8).take 2)) xs.length c (xs.drop 26) w e w' := by
  obtain ⟨i, hi, hzz⟩ := Option.map_eq_some_iff.1 info5
  simp only [Prod.mk.injEq] at hzz
  have HR := Aside0.mk (fun (wi : World) (h : Below w.heap.size w wi) => show ReadsInt wi .u8 (some ⟨b, 0, none⟩) xs.length xs from reads_block hr (h.block _ hb))
  have HR26 := Aside0.mk (fun (wi : World) (h : Below w.heap.size w wi) => show ReadsInt wi .u8 (some ⟨b, 26, none⟩) (xs.length - 26) (xs.drop 26) by
    have h1 := reads_drop (k := 26) (HR.out wi h) hn
    rwa [Nat.zero_add] at h1)
  have HR8 := Aside0.mk (fun (wi : World) (h : Below w.heap.size w wi) => show ReadsInt wi .u8 (some ⟨b, 0, none⟩) 8 (xs.take 8) by
    have := reads_take (HR.out wi h) 8 (by omega)
    rwa [show (xs.take 8).length = 8 by rw [List.length_take]; omega] at this)
  have HR2 := Aside0.mk (fun (wi : World) (h : Below w.heap.size w wi) => show ReadsInt wi .u8 (some ⟨b, 8, none⟩) 2 ((xs.drop 8).take 2) by
    have h1 := reads_drop (k := 8) (HR.out wi h) (by omega)
    rw [Nat.zero_add, show xs.length - 8 = (xs.drop 8).length by rw [List.length_drop]] at h1
    have := reads_take h1 2 (by rw [List.length_drop]; omega)
    rwa [show ((xs.drop 8).take 2).length = 2 by rw [List.length_take, List.length_drop]; omega] at this)
  have HR16 := Aside0.mk (fun (wi : World) (h : Below w.heap.size w wi) => show ReadsInt wi .u8 (some ⟨b, 10, none⟩) 16 ((xs.drop 10).take 16) by
    have h1 := reads_drop (k := 10) (HR.out wi h) (by omega)
    rw [Nat.zero_add, show xs.length - 10 = (xs.drop 10).length by rw [List.length_drop]] at h1
    have := reads_take h1 16 (by rw [List.length_drop]; omega)
    rwa [show ((xs.drop 10).take 16).length = 16 by rw [List.length_take, List.length_drop]; omega] at this)
  have HU8 := Aside0.mk (fun (wi : World) (h : Below w.heap.size w wi) => show Calls Try.prog 63 #[.slice (some ⟨b, 0, none⟩) 8 c] wi fun e w' => e = .returned (.int .u64 (be (xs.take 8))) ∧ Drawn0 wi w' by
    have hl : (xs.take 8).length = 8 := by rw [List.length_take]; omega
    have := uint64_any (c := c) wi (by rw [hl]; exact HR8.out wi h) (by omega) (by omega) (fun x hx => hby x (List.mem_of_mem_take hx))
    rwa [hl, List.take_take] at this)
  have HU2 := Aside0.mk (fun (wi : World) (h : Below w.heap.size w wi) => show Calls Try.prog 64 #[.slice (some ⟨b, 8, none⟩) 2 (c - 8)] wi fun e w' => e = .returned (.int .u16 (be ((xs.drop 8).take 2))) ∧ Drawn0 wi w' by
    have hl : ((xs.drop 8).take 2).length = 2 := by rw [List.length_take, List.length_drop]; omega
    have := uint16_any (c := c - 8) wi (by rw [hl]; exact HR2.out wi h) (by omega) (by omega) (fun x hx => hby x (List.mem_of_mem_drop (List.mem_of_mem_take hx)))
    rwa [hl, List.take_take] at this)
  obtain ⟨i0, i1, i2, i3, i4, i5, i6, i7, i8, i9, i10, i11, i12, i13, i14, i15, hids⟩ := sixteen ((xs.drop 10).take 16) (by rw [List.length_take, List.length_drop]; omega)
  have hni : (26 : Int) ≤ (xs.length : Int) := by omega
  have hci : (xs.length : Int) ≤ (c : Int) := by omega
  have hc8 : ¬ c = 8 := by omega
  have hc10 : ¬ c = 10 := by omega
  have HIDS := Aside0.mk hids
  rw [hids] at HR16
  have HCC := Aside0.mk (And.intro hc (And.intro hn hz))
  obtain ⟨T, hT⟩ : ∃ T, T = IntKind.i64.wrap (be (xs.take 8)) := ⟨_, rfl⟩
  obtain ⟨V, hV⟩ : ∃ V, V = be ((xs.drop 8).take 2) := ⟨_, rfl⟩
  rw [hids, ← hT, ← hV]
  rw [← hV] at HU2
  have HT := Aside0.mk hT
  obtain ⟨U, hU⟩ : ∃ U, U = be (xs.take 8) := ⟨_, rfl⟩
  rw [← hU] at HU8 hT
  have hT2 := hT.symm
  clear hr hby hids hV hU hT HT hz HR HR8 HR2
  go_enter Try.func42, Try.ntmps42
  go_wp2_with fail
  refine (HU8.out _ (below_alloc (Below.refl _ _) _)).mono ?_
  rintro e w1 ⟨rfl, ⟨m, hm⟩⟩
  have HX1 := Aside0.mk (show w1.heap[w.heap.size]? = some (.cells #[.int .u8 0, .int .u8 0, .int .u8 0, .int .u8 0, .int .u8 0, .int .u8 0, .int .u8 0, .int .u8 0, .int .u8 0, .int .u8 0, .int .u8 0, .int .u8 0, .int .u8 0, .int .u8 0, .int .u8 0, .int .u8 0, .slice none 0 0, .int .i64 0, .int .u16 0] 74 (0, 0)) by rw [hm]; exact heap_alloc_new w _)
  have HB1 := Aside0.mk (show Below w.heap.size w w1 by rw [hm]; exact pw_below_drewN (below_alloc (Below.refl _ _) _) m)
  have hf17 := blk_frozen HX1.out 17
  have hc17 := blk_cell HX1.out 17
  clear hm HU8
  go_wp2_with fail
  refine (HU2.out _ (below_set HB1.out (Nat.le_refl _))).mono ?_
  rintro e w2 ⟨rfl, ⟨m, hm⟩⟩
  have HX2 := Aside0.mk (show w2.heap[w.heap.size]? = some (.cells #[.int .u8 0, .int .u8 0, .int .u8 0, .int .u8 0, .int .u8 0, .int .u8 0, .int .u8 0, .int .u8 0, .int .u8 0, .int .u8 0, .int .u8 0, .int .u8 0, .int .u8 0, .int .u8 0, .int .u8 0, .int .u8 0, .slice none 0 0, .int .i64 T, .int .u16 0] 74 (0, 0)) by rw [hm]; exact blk_put HX1.out 17 _ rfl)
  have HB2 := Aside0.mk (show Below w.heap.size w w2 by rw [hm]; exact pw_below_drewN (below_set HB1.out (Nat.le_refl _)) m)
  have hf18 := blk_frozen HX2.out 18
  have hc18 := blk_cell HX2.out 18
  clear hm HU2 hf17 hc17 HX1 HB1
  have HX3 := Aside0.mk (show (w2.setCell ⟨w.heap.size, 18, none⟩ (.int .u16 V)).drew.heap[w.heap.size]? = some (.cells #[.int .u8 0, .int .u8 0, .int .u8 0, .int .u8 0, .int .u8 0, .int .u8 0, .int .u8 0, .int .u8 0, .int .u8 0, .int .u8 0, .int .u8 0, .int .u8 0, .int .u8 0, .int .u8 0, .int .u8 0, .int .u8 0, .slice none 0 0, .int .i64 T, .int .u16 V] 74 (0, 0)) from blk_put HX2.out 18 _ rfl)
  have HB3 := Aside0.mk (show Below w.heap.size w (w2.setCell ⟨w.heap.size, 18, none⟩ (.int .u16 V)).drew from below_drew (below_set HB2.out (Nat.le_refl _)))
  have hcp : ∀ ty, (Builtin.copy_ #[69, 69] ty #[.slice (some ⟨w.heap.size, 0, none⟩) 16 16, .slice (some ⟨b, 10, none⟩) 16 (c - 10)]).run Try.prog (w2.setCell ⟨w.heap.size, 18, none⟩ (.int .u16 V)).drew = .ok (.int .i64 16) ((w2.setCell ⟨w.heap.size, 18, none⟩ (.int .u16 V)).drew.setRow w.heap.size #[.int .u8 i0, .int .u8 i1, .int .u8 i2, .int .u8 i3, .int .u8 i4, .int .u8 i5, .int .u8 i6, .int .u8 i7, .int .u8 i8, .int .u8 i9, .int .u8 i10, .int .u8 i11, .int .u8 i12, .int .u8 i13, .int .u8 i14, .int .u8 i15, .slice none 0 0, .int .i64 T, .int .u16 V]) := fun ty => by
    have h := run_copy_row (P := Try.prog) (w2.setCell ⟨w.heap.size, 18, none⟩ (.int .u16 V)).drew 69 69 ty 5 w.heap.size 0 16 16 ⟨b, 10, none⟩ 16 (c - 10) #[.int .u8 0, .int .u8 0, .int .u8 0, .int .u8 0, .int .u8 0, .int .u8 0, .int .u8 0, .int .u8 0, .int .u8 0, .int .u8 0, .int .u8 0, .int .u8 0, .int .u8 0, .int .u8 0, .int .u8 0, .int .u8 0, .slice none 0 0, .int .i64 T, .int .u16 V] 74 (nums .u8 [i0, i1, i2, i3, i4, i5, i6, i7, i8, i9, i10, i11, i12, i13, i14, i15]) Try.underlying69 (by rw [hi]; exact congrArg some hzz.2.1) HX3.out rfl (fun j v hj => ?_) (by simp [nums]) (fun v hv => ?_)
    · rw [h]
      simp [nums]
      rfl
    · obtain ⟨ad, he, hcl⟩ := (HR16.out _ HB3.out).2.2 (by omega)
      injection he with he
      subst he
      have hj16 : j < 16 := by
        have := (List.getElem?_eq_some_iff.1 hj).1
        simpa [nums] using this
      rw [hcl j hj16]
      unfold nums at hj
      rw [List.getElem?_map] at hj
      obtain ⟨x, hx, rfl⟩ := Option.map_eq_some_iff.1 hj
      rw [List.getD_eq_getElem?_getD, hx]
      rfl
    · unfold nums at hv
      obtain ⟨a, _, rfl⟩ := List.mem_map.1 hv
      rfl
  have HX4 := Aside0.mk (show ((w2.setCell ⟨w.heap.size, 18, none⟩ (.int .u16 V)).drew.setRow w.heap.size #[.int .u8 i0, .int .u8 i1, .int .u8 i2, .int .u8 i3, .int .u8 i4, .int .u8 i5, .int .u8 i6, .int .u8 i7, .int .u8 i8, .int .u8 i9, .int .u8 i10, .int .u8 i11, .int .u8 i12, .int .u8 i13, .int .u8 i14, .int .u8 i15, .slice none 0 0, .int .i64 T, .int .u16 V]).heap[w.heap.size]? = some (.cells #[.int .u8 i0, .int .u8 i1, .int .u8 i2, .int .u8 i3, .int .u8 i4, .int .u8 i5, .int .u8 i6, .int .u8 i7, .int .u8 i8, .int .u8 i9, .int .u8 i10, .int .u8 i11, .int .u8 i12, .int .u8 i13, .int .u8 i14, .int .u8 i15, .slice none 0 0, .int .i64 T, .int .u16 V] 74 (0, 0)) from setRow_heap _ _ _ _ _ _ HX3.out)
  have HB4 := Aside0.mk (show Below w.heap.size w ((w2.setCell ⟨w.heap.size, 18, none⟩ (.int .u16 V)).drew.setRow w.heap.size #[.int .u8 i0, .int .u8 i1, .int .u8 i2, .int .u8 i3, .int .u8 i4, .int .u8 i5, .int .u8 i6, .int .u8 i7, .int .u8 i8, .int .u8 i9, .int .u8 i10, .int .u8 i11, .int .u8 i12, .int .u8 i13, .int .u8 i14, .int .u8 i15, .slice none 0 0, .int .i64 T, .int .u16 V]) from below_setRow HB3.out (Nat.le_refl _) _)
  have hf16 := blk_frozen HX4.out 16
  have hc16 := blk_cell HX4.out 16
  go_wp2_with fail
  go_region
  go_wp2_with fail
  all_goals go_ret2
  all_goals
    first
    | refine ⟨some ⟨b, 26, none⟩, rfl, below_set HB4.out (Nat.le_refl _), ?_, HR26.out _ (below_set HB4.out (Nat.le_refl _)), fun ad e => by injection e with e; subst e; rfl⟩
      exact blk_put (cs' := #[.int .u8 i0, .int .u8 i1, .int .u8 i2, .int .u8 i3, .int .u8 i4, .int .u8 i5, .int .u8 i6, .int .u8 i7, .int .u8 i8, .int .u8 i9, .int .u8 i10, .int .u8 i11, .int .u8 i12, .int .u8 i13, .int .u8 i14, .int .u8 i15, .slice (some ⟨b, 26, none⟩) (xs.length - 26) (c - 26), .int .i64 T, .int .u16 V]) HX4.out 16 _ rfl
    | refine ⟨some ⟨b, 0, none⟩, rfl, below_set HB4.out (Nat.le_refl _), ?_, ?_, fun ad e => by injection e with e; subst e; rfl⟩
      · exact blk_put (cs' := #[.int .u8 i0, .int .u8 i1, .int .u8 i2, .int .u8 i3, .int .u8 i4, .int .u8 i5, .int .u8 i6, .int .u8 i7, .int .u8 i8, .int .u8 i9, .int .u8 i10, .int .u8 i11, .int .u8 i12, .int .u8 i13, .int .u8 i14, .int .u8 i15, .slice (some ⟨b, 0, none⟩) (xs.length - 26) (26 - 26), .int .i64 T, .int .u16 V]) HX4.out 16 _ rfl
      · have h0 : xs.length - 26 = 0 := by have := HCC.out.1; omega
        rw [h0]
        exact ⟨by rw [List.length_drop]; exact h0, by decide, fun h => absurd h (by decide)⟩
end Go.Proofs.Ytnbhledkdkchlaa

namespace Go.Proofs.Ytnbhledkdkchlaa
set_option linter.unusedVariables false
set_option linter.unusedSimpArgs false
open Go.RowKit Go.Proofs.YtnbhledkdkchlaaW.PrintWords
open PAll (info5)

/-- What MessageRead answers. -/
def MrR (T V : Int) (ids bd : ByteArray) (w : World) (e : Ending) (w' : World) : Prop := e = .returned (.tuple #[.agg #[.int .i64 T, .int .i64 V, .string ids, .string bd], .int .i64 0]) ∧ Below w.heap.size w w'

set_option maxHeartbeats 4000000 in
set_option maxRecDepth 100000 in
theorem messageRead_any (s : ByteArray) (w : World) (hn : 26 ≤ s.size) (hz : s.size ≤ 1000000) :
    Calls Try.prog 20 #[.string s] w fun e w' => MrR (IntKind.i64.wrap (be ((bytesOf s).take 8))) (be (((bytesOf s).drop 8).take 2)) (strOfNums (((bytesOf s).drop 10).take 16)) (strOfNums ((bytesOf s).drop 26)) w e w' := by
  have hl := bytesOf_length s
  have hbs := fun s w => print_bytes (P := Try.prog) 9 69 5 Try.underlying9 Try.underlying69 Try.underlying5 s w
  obtain ⟨c, hc⟩ : ∃ c, c = grownCap (w.alloc (.cells #[.int .i64 0, .int .i64 0, .string ⟨#[]⟩, .string ⟨#[]⟩] 28)) s.size 0 5 := ⟨_, rfl⟩
  have hrd := bytes_reads (w.alloc (.cells #[.int .i64 0, .int .i64 0, .string ⟨#[]⟩, .string ⟨#[]⟩] 28)) 5 s (by omega)
  have hz0 : (w.alloc (.cells #[.int .i64 0, .int .i64 0, .string ⟨#[]⟩, .string ⟨#[]⟩] 28)).heap.size = w.heap.size + 1 := by simp
  have hz1 : (Lib.bytesWorld (w.alloc (.cells #[.int .i64 0, .int .i64 0, .string ⟨#[]⟩, .string ⟨#[]⟩] 28)) 5 s).heap.size = w.heap.size + 2 := by rw [Lib.bytesWorld_size, hz0]
  rw [hz0] at hrd
  have HD := Aside0.mk (decode_any (w.heap.size + 1) c (bytesOf s) (Lib.bytesWorld (w.alloc (.cells #[.int .i64 0, .int .i64 0, .string ⟨#[]⟩, .string ⟨#[]⟩] 28)) 5 s) (by rw [hl]; exact hrd) (by rw [hl, hc]; exact grownCap_ge _ _ _ _) (by omega) (by omega) (bytesOf_rng s) (by omega))
  have HB0 := Aside0.mk (show Below w.heap.size w (Lib.bytesWorld (w.alloc (.cells #[.int .i64 0, .int .i64 0, .string ⟨#[]⟩, .string ⟨#[]⟩] 28)) 5 s) from bytes_below (below_alloc (Below.refl w.heap.size w) _) (by simp) 5 s)
  have HX0 := Aside0.mk (show (Lib.bytesWorld (w.alloc (.cells #[.int .i64 0, .int .i64 0, .string ⟨#[]⟩, .string ⟨#[]⟩] 28)) 5 s).heap[w.heap.size]? = some (.cells #[.int .i64 0, .int .i64 0, .string ⟨#[]⟩, .string ⟨#[]⟩] 28 (0, 0)) from (Lib.bytesWorld_at_old _ 5 s w.heap.size (by simp)).trans (heap_alloc_new w _))
  have HZ1 := Aside0.mk hz1
  have hvr := be_range (((bytesOf s).drop 8).take 2) (fun x hx => bytesOf_rng s x (List.mem_of_mem_drop (List.mem_of_mem_take hx)))
  rw [show (((bytesOf s).drop 8).take 2).length = 2 by rw [List.length_take, List.length_drop]; omega] at hvr
  have hidl : (((bytesOf s).drop 10).take 16).length = 16 := by rw [List.length_take, List.length_drop]; omega
  have hbl : ((bytesOf s).drop 26).length = s.size - 26 := by rw [List.length_drop, hl]
  rw [hl] at HD
  obtain ⟨T, hT⟩ : ∃ T, T = IntKind.i64.wrap (be ((bytesOf s).take 8)) := ⟨_, rfl⟩
  obtain ⟨V, hV⟩ : ∃ V, V = be (((bytesOf s).drop 8).take 2) := ⟨_, rfl⟩
  obtain ⟨idl, hidl2⟩ : ∃ idl, idl = ((bytesOf s).drop 10).take 16 := ⟨_, rfl⟩
  obtain ⟨bdl, hbdl⟩ : ∃ bdl, bdl = (bytesOf s).drop 26 := ⟨_, rfl⟩
  rw [← hV, ← hT, ← hidl2, ← hbdl] at HD ⊢
  rw [← hV] at hvr
  rw [← hidl2] at hidl
  rw [← hbdl] at hbl
  obtain ⟨ids, hids⟩ : ∃ ids, ids = strOfNums idl := ⟨_, rfl⟩
  obtain ⟨bd, hbd⟩ : ∃ bd, bd = strOfNums bdl := ⟨_, rfl⟩
  rw [← hids, ← hbd]
  have HIDS := Aside0.mk (And.intro hids (And.intro hbd (And.intro hidl hbl)))
  have hV0 : 0 ≤ V := hvr.1
  have hV1 : V < 65536 := hvr.2
  have hVw : IntKind.i64.wrap V = V := by rw [IntKind.wrap_i64]; omega
  subst hc
  clear hrd hz0 hz1 hl hT hV hidl2 hbdl hids hbd hidl hbl hvr
  go_enter Try.func20, Try.ntmps20
  go_wp2_with fail
  refine (HD.out).mono ?_
  rintro e w1 ⟨A', rfl, hb1, hbx, hrb, hblk⟩
  rw [HZ1.out] at hbx
  obtain ⟨mp, hmp⟩ : ∃ mp, mp = w.heap.size + 2 := ⟨_, rfl⟩
  have hmp2 : (Lib.bytesWorld (w.alloc (.cells #[.int .i64 0, .int .i64 0, .string ⟨#[]⟩, .string ⟨#[]⟩] 28)) 5 s).heap.size = mp := by rw [HZ1.out, hmp]
  rw [hmp2]
  rw [← hmp] at hbx
  have HX1 := Aside0.mk ((hb1.block _ (by rw [HZ1.out]; omega)).trans HX0.out)
  have HB1 := Aside0.mk (HB0.out.trans (hb1.mono (HB0.out.size)))
  have HMP := Aside0.mk hmp
  obtain ⟨c, hc⟩ : ∃ c, c = grownCap (w.alloc (.cells #[.int .i64 0, .int .i64 0, .string ⟨#[]⟩, .string ⟨#[]⟩] 28)) s.size 0 5 := ⟨_, rfl⟩
  rw [← hc] at hbx
  clear hc
  have hcells : (nums .u8 idl).toArray.size = 16 := by unfold nums; rw [List.size_toArray, List.length_map]; exact HIDS.out.2.2.1
  have HK := Aside0.mk (fun (wi : World) (hk : ∀ k, k ≠ w.heap.size → k < w1.heap.size → wi.heap[k]? = w1.heap[k]?) => show wi.cell? ⟨mp, 16, none⟩ = some (.slice A' (s.size - 26) (c - 26)) ∧ wi.cell? ⟨mp, 17, none⟩ = some (.int .i64 T) ∧ wi.cell? ⟨mp, 18, none⟩ = some (.int .u16 V) ∧ (convert 69 9 (.slice (some ⟨mp, 0, none⟩) 16 16)).run Try.prog wi = .ok (.string ids) wi ∧ (convert 69 9 (.slice A' (s.size - 26) (c - 26))).run Try.prog wi = .ok (.string bd) wi by
    have hb2 := (hk mp (by have := HMP.out; omega) (blk_lt hbx)).trans hbx
    have e16 : ∀ a b c : Value, ((nums .u8 idl).toArray ++ #[a, b, c])[16]? = some a ∧ ((nums .u8 idl).toArray ++ #[a, b, c])[17]? = some b ∧ ((nums .u8 idl).toArray ++ #[a, b, c])[18]? = some c := by
      intro a b c
      refine ⟨?_, ?_, ?_⟩ <;> rw [Array.getElem?_append_right (by omega), hcells] <;> rfl
    refine ⟨?_, ?_, ?_, ?_, ?_⟩
    · rw [blk_cell hb2 16]
      exact (e16 _ _ _).1
    · rw [blk_cell hb2 17]
      exact (e16 _ _ _).2.1
    · rw [blk_cell hb2 18]
      exact (e16 _ _ _).2.2
    · have hr : ReadsInt wi .u8 (some ⟨mp, 0, none⟩) 16 idl := by
        refine reads_blk hb2 HIDS.out.2.2.1 (by decide) fun j hj => ?_
        rw [Nat.zero_add, Array.getElem?_append_left (by omega)]
        have hl : j < idl.length := by rw [HIDS.out.2.2.1]; exact hj
        unfold nums
        rw [List.getElem?_toArray, List.getElem?_map, List.getElem?_eq_getElem hl, List.getD_eq_getElem?_getD, List.getElem?_eq_getElem hl]
        rfl
      rw [HIDS.out.1]
      exact string_of_reads (P := Try.prog) (w := wi) (c := 16) Try.underlying69 Try.underlying5 Try.underlying9 hr
    · have hr : ReadsInt wi .u8 A' (s.size - 26) bdl := reads_keep hrb (fun ad he hlt => hk _ (by rw [hblk ad he]; omega) hlt)
      rw [HIDS.out.2.1]
      exact string_of_reads (P := Try.prog) (w := wi) (c := c - 26) Try.underlying69 Try.underlying5 Try.underlying9 hr)
  clear hb1 hbx hrb hblk hmp hmp2 hcells HD HB0 HX0
  go_wp2_with fail
  refine wp_region_held_drew (S := fun wi : World => wi.cell? ⟨mp, 16, none⟩ = some (.slice A' (s.size - 26) (c - 26)) ∧ wi.cell? ⟨mp, 17, none⟩ = some (.int .i64 T) ∧ wi.cell? ⟨mp, 18, none⟩ = some (.int .u16 V) ∧ (convert 69 9 (.slice (some ⟨mp, 0, none⟩) 16 16)).run Try.prog wi = .ok (.string ids) wi ∧ (convert 69 9 (.slice A' (s.size - 26) (c - 26))).run Try.prog wi = .ok (.string bd) wi) (by kernel_rfl) (HK.out _ (fun _ _ _ => rfl)) (fun hH => ?_)
  refine wpAnyH_take (i := 0) (oi := { dst := some 15, op := Go.Op.move (Go.Operand.tmp 4), type := 64, pos := "nsq.go:163", after := #[], guard := none }) (v := .pointer (some ⟨mp, 0, none⟩)) rfl (by kernel_rfl) (by kernel_rfl) (by kernel_rfl) (fun _ _ _ h => h) (Or.inl ⟨by rfl, ?_⟩) (by assumption) ?_
  · intro wi hSw
    obtain ⟨hs0, hs1, hs2, hs3, hs4⟩ := hSw
    go_simp
  try simp only [Act.put, List.setIfInBounds_toArray, List.set_cons_zero, List.set_cons_succ]
  refine wpAnyH_take (i := 1) (oi := { dst := some 16, op := Go.Op.nilCheck (Go.Operand.tmp 15), type := 0, pos := "nsq.go:163", after := #[{ on := 0, ground := Go.Ground.data }], guard := none }) (v := .pointer (some ⟨mp, 0, none⟩)) rfl (by kernel_rfl) (by kernel_rfl) (by kernel_rfl) (fun _ _ _ h => h) (Or.inl ⟨by rfl, ?_⟩) (by assumption) ?_
  · intro wi hSw
    obtain ⟨hs0, hs1, hs2, hs3, hs4⟩ := hSw
    go_simp
  try simp only [Act.put, List.setIfInBounds_toArray, List.set_cons_zero, List.set_cons_succ]
  refine wpAnyH_take (i := 2) (oi := { dst := some 17, op := Go.Op.fieldAddr 74 (Go.Operand.tmp 16) 2, type := 0, pos := "nsq.go:163", after := #[{ on := 1, ground := Go.Ground.data }], guard := none }) (v := .pointer (some ⟨mp, 17, none⟩)) rfl (by kernel_rfl) (by kernel_rfl) (by kernel_rfl) (fun _ _ _ h => h) (Or.inl ⟨by rfl, ?_⟩) (by assumption) ?_
  · intro wi hSw
    obtain ⟨hs0, hs1, hs2, hs3, hs4⟩ := hSw
    go_simp
  try simp only [Act.put, List.setIfInBounds_toArray, List.set_cons_zero, List.set_cons_succ]
  refine wpAnyH_take (i := 3) (oi := { dst := some 18, op := Go.Op.load 2 (Go.Operand.tmp 17), type := 2, pos := "nsq.go:163", after := #[{ on := 2, ground := Go.Ground.data }], guard := none }) (v := .int .i64 T) rfl (by kernel_rfl) (by kernel_rfl) (by kernel_rfl) (fun _ _ _ h => h) (Or.inl ⟨by rfl, ?_⟩) (by assumption) ?_
  · intro wi hSw
    obtain ⟨hs0, hs1, hs2, hs3, hs4⟩ := hSw
    go_simp
  try simp only [Act.put, List.setIfInBounds_toArray, List.set_cons_zero, List.set_cons_succ]
  refine wpAnyH_take (i := 4) (oi := { dst := some 19, op := Go.Op.move (Go.Operand.tmp 4), type := 64, pos := "nsq.go:163", after := #[], guard := none }) (v := .pointer (some ⟨mp, 0, none⟩)) rfl (by kernel_rfl) (by kernel_rfl) (by kernel_rfl) (fun _ _ _ h => h) (Or.inl ⟨by rfl, ?_⟩) (by assumption) ?_
  · intro wi hSw
    obtain ⟨hs0, hs1, hs2, hs3, hs4⟩ := hSw
    go_simp
  try simp only [Act.put, List.setIfInBounds_toArray, List.set_cons_zero, List.set_cons_succ]
  refine wpAnyH_take (i := 5) (oi := { dst := some 20, op := Go.Op.nilCheck (Go.Operand.tmp 19), type := 0, pos := "nsq.go:163", after := #[{ on := 4, ground := Go.Ground.data }], guard := none }) (v := .pointer (some ⟨mp, 0, none⟩)) rfl (by kernel_rfl) (by kernel_rfl) (by kernel_rfl) (fun _ _ _ h => h) (Or.inl ⟨by rfl, ?_⟩) (by assumption) ?_
  · intro wi hSw
    obtain ⟨hs0, hs1, hs2, hs3, hs4⟩ := hSw
    go_simp
  try simp only [Act.put, List.setIfInBounds_toArray, List.set_cons_zero, List.set_cons_succ]
  refine wpAnyH_take (i := 6) (oi := { dst := some 21, op := Go.Op.fieldAddr 74 (Go.Operand.tmp 20) 3, type := 0, pos := "nsq.go:163", after := #[{ on := 5, ground := Go.Ground.data }], guard := none }) (v := .pointer (some ⟨mp, 18, none⟩)) rfl (by kernel_rfl) (by kernel_rfl) (by kernel_rfl) (fun _ _ _ h => h) (Or.inl ⟨by rfl, ?_⟩) (by assumption) ?_
  · intro wi hSw
    obtain ⟨hs0, hs1, hs2, hs3, hs4⟩ := hSw
    go_simp
  try simp only [Act.put, List.setIfInBounds_toArray, List.set_cons_zero, List.set_cons_succ]
  refine wpAnyH_take (i := 7) (oi := { dst := some 22, op := Go.Op.load 72 (Go.Operand.tmp 21), type := 72, pos := "nsq.go:163", after := #[{ on := 6, ground := Go.Ground.data }], guard := none }) (v := .int .u16 V) rfl (by kernel_rfl) (by kernel_rfl) (by kernel_rfl) (fun _ _ _ h => h) (Or.inl ⟨by rfl, ?_⟩) (by assumption) ?_
  · intro wi hSw
    obtain ⟨hs0, hs1, hs2, hs3, hs4⟩ := hSw
    go_simp
  try simp only [Act.put, List.setIfInBounds_toArray, List.set_cons_zero, List.set_cons_succ]
  refine wpAnyH_take (i := 8) (oi := { dst := some 23, op := Go.Op.convert 72 3 (Go.Operand.tmp 22), type := 3, pos := "nsq.go:163", after := #[{ on := 7, ground := Go.Ground.data }], guard := none }) (v := .int .i64 V) rfl (by kernel_rfl) (by kernel_rfl) (by kernel_rfl) (fun _ _ _ h => h) (Or.inl ⟨by rfl, ?_⟩) (by assumption) ?_
  · intro wi hSw
    obtain ⟨hs0, hs1, hs2, hs3, hs4⟩ := hSw
    go_simp
  try simp only [Act.put, List.setIfInBounds_toArray, List.set_cons_zero, List.set_cons_succ]
  refine wpAnyH_take (i := 9) (oi := { dst := some 24, op := Go.Op.move (Go.Operand.tmp 4), type := 64, pos := "nsq.go:163", after := #[], guard := none }) (v := .pointer (some ⟨mp, 0, none⟩)) rfl (by kernel_rfl) (by kernel_rfl) (by kernel_rfl) (fun _ _ _ h => h) (Or.inl ⟨by rfl, ?_⟩) (by assumption) ?_
  · intro wi hSw
    obtain ⟨hs0, hs1, hs2, hs3, hs4⟩ := hSw
    go_simp
  try simp only [Act.put, List.setIfInBounds_toArray, List.set_cons_zero, List.set_cons_succ]
  refine wpAnyH_take (i := 10) (oi := { dst := some 25, op := Go.Op.nilCheck (Go.Operand.tmp 24), type := 0, pos := "nsq.go:163", after := #[{ on := 9, ground := Go.Ground.data }], guard := none }) (v := .pointer (some ⟨mp, 0, none⟩)) rfl (by kernel_rfl) (by kernel_rfl) (by kernel_rfl) (fun _ _ _ h => h) (Or.inl ⟨by rfl, ?_⟩) (by assumption) ?_
  · intro wi hSw
    obtain ⟨hs0, hs1, hs2, hs3, hs4⟩ := hSw
    go_simp
  try simp only [Act.put, List.setIfInBounds_toArray, List.set_cons_zero, List.set_cons_succ]
  refine wpAnyH_take (i := 11) (oi := { dst := some 26, op := Go.Op.fieldAddr 74 (Go.Operand.tmp 25) 0, type := 0, pos := "nsq.go:163", after := #[{ on := 10, ground := Go.Ground.data }], guard := none }) (v := .pointer (some ⟨mp, 0, none⟩)) rfl (by kernel_rfl) (by kernel_rfl) (by kernel_rfl) (fun _ _ _ h => h) (Or.inl ⟨by rfl, ?_⟩) (by assumption) ?_
  · intro wi hSw
    obtain ⟨hs0, hs1, hs2, hs3, hs4⟩ := hSw
    go_simp
  try simp only [Act.put, List.setIfInBounds_toArray, List.set_cons_zero, List.set_cons_succ]
  refine wpAnyH_take (i := 12) (oi := { dst := some 27, op := Go.Op.slice 71 (Go.Operand.tmp 26) none none none, type := 69, pos := "nsq.go:163", after := #[{ on := 11, ground := Go.Ground.data }], guard := none }) (v := .slice (some ⟨mp, 0, none⟩) 16 16) rfl (by kernel_rfl) (by kernel_rfl) (by kernel_rfl) (fun _ _ _ h => h) (Or.inl ⟨by rfl, ?_⟩) (by assumption) ?_
  · intro wi hSw
    obtain ⟨hs0, hs1, hs2, hs3, hs4⟩ := hSw
    go_simp
  try simp only [Act.put, List.setIfInBounds_toArray, List.set_cons_zero, List.set_cons_succ]
  refine wpAnyH_take (i := 13) (oi := { dst := some 28, op := Go.Op.convert 69 9 (Go.Operand.tmp 27), type := 9, pos := "nsq.go:163", after := #[{ on := 12, ground := Go.Ground.data }], guard := none }) (v := .string ids) rfl (by kernel_rfl) (by kernel_rfl) (by kernel_rfl) (fun _ _ _ h => h) (Or.inl ⟨by rfl, ?_⟩) (by assumption) ?_
  · intro wi hSw
    obtain ⟨hs0, hs1, hs2, hs3, hs4⟩ := hSw
    go_simp
  try simp only [Act.put, List.setIfInBounds_toArray, List.set_cons_zero, List.set_cons_succ]
  refine wpAnyH_take (i := 14) (oi := { dst := some 29, op := Go.Op.move (Go.Operand.tmp 4), type := 64, pos := "nsq.go:163", after := #[], guard := none }) (v := .pointer (some ⟨mp, 0, none⟩)) rfl (by kernel_rfl) (by kernel_rfl) (by kernel_rfl) (fun _ _ _ h => h) (Or.inl ⟨by rfl, ?_⟩) (by assumption) ?_
  · intro wi hSw
    obtain ⟨hs0, hs1, hs2, hs3, hs4⟩ := hSw
    go_simp
  try simp only [Act.put, List.setIfInBounds_toArray, List.set_cons_zero, List.set_cons_succ]
  refine wpAnyH_take (i := 15) (oi := { dst := some 30, op := Go.Op.nilCheck (Go.Operand.tmp 29), type := 0, pos := "nsq.go:163", after := #[{ on := 14, ground := Go.Ground.data }], guard := none }) (v := .pointer (some ⟨mp, 0, none⟩)) rfl (by kernel_rfl) (by kernel_rfl) (by kernel_rfl) (fun _ _ _ h => h) (Or.inl ⟨by rfl, ?_⟩) (by assumption) ?_
  · intro wi hSw
    obtain ⟨hs0, hs1, hs2, hs3, hs4⟩ := hSw
    go_simp
  try simp only [Act.put, List.setIfInBounds_toArray, List.set_cons_zero, List.set_cons_succ]
  refine wpAnyH_take (i := 16) (oi := { dst := some 31, op := Go.Op.fieldAddr 74 (Go.Operand.tmp 30) 1, type := 0, pos := "nsq.go:163", after := #[{ on := 15, ground := Go.Ground.data }], guard := none }) (v := .pointer (some ⟨mp, 16, none⟩)) rfl (by kernel_rfl) (by kernel_rfl) (by kernel_rfl) (fun _ _ _ h => h) (Or.inl ⟨by rfl, ?_⟩) (by assumption) ?_
  · intro wi hSw
    obtain ⟨hs0, hs1, hs2, hs3, hs4⟩ := hSw
    go_simp
  try simp only [Act.put, List.setIfInBounds_toArray, List.set_cons_zero, List.set_cons_succ]
  refine wpAnyH_take (i := 17) (oi := { dst := some 32, op := Go.Op.load 69 (Go.Operand.tmp 31), type := 69, pos := "nsq.go:163", after := #[{ on := 16, ground := Go.Ground.data }], guard := none }) (v := .slice A' (s.size - 26) (c - 26)) rfl (by kernel_rfl) (by kernel_rfl) (by kernel_rfl) (fun _ _ _ h => h) (Or.inl ⟨by rfl, ?_⟩) (by assumption) ?_
  · intro wi hSw
    obtain ⟨hs0, hs1, hs2, hs3, hs4⟩ := hSw
    go_simp
  try simp only [Act.put, List.setIfInBounds_toArray, List.set_cons_zero, List.set_cons_succ]
  refine wpAnyH_take (i := 18) (oi := { dst := some 33, op := Go.Op.convert 69 9 (Go.Operand.tmp 32), type := 9, pos := "nsq.go:163", after := #[{ on := 17, ground := Go.Ground.data }], guard := none }) (v := .string bd) rfl (by kernel_rfl) (by kernel_rfl) (by kernel_rfl) (fun _ _ _ h => h) (Or.inl ⟨by rfl, ?_⟩) (by assumption) ?_
  · intro wi hSw
    obtain ⟨hs0, hs1, hs2, hs3, hs4⟩ := hSw
    go_simp
  try simp only [Act.put, List.setIfInBounds_toArray, List.set_cons_zero, List.set_cons_succ]
  refine wpAnyH_take (i := 19) (oi := { dst := some 34, op := Go.Op.build 28 #[(0, Go.Operand.tmp 18), (1, Go.Operand.tmp 23), (2, Go.Operand.tmp 28), (3, Go.Operand.tmp 33)], type := 28, pos := "nsq.go:163", after := #[{ on := 3, ground := Go.Ground.data }, { on := 8, ground := Go.Ground.data }, { on := 13, ground := Go.Ground.data }, { on := 18, ground := Go.Ground.data }], guard := none }) (v := .agg #[.int .i64 T, .int .i64 V, .string ids, .string bd]) rfl (by kernel_rfl) (by kernel_rfl) (by kernel_rfl) (fun _ _ _ h => h) (Or.inl ⟨by rfl, ?_⟩) (by assumption) ?_
  · intro wi hSw
    obtain ⟨hs0, hs1, hs2, hs3, hs4⟩ := hSw
    go_simp
  try simp only [Act.put, List.setIfInBounds_toArray, List.set_cons_zero, List.set_cons_succ]
  have p0 := blk_put (cs' := #[.int .i64 T, .int .i64 0, .string ⟨#[]⟩, .string ⟨#[]⟩]) (show w1.drew.heap[w.heap.size]? = _ from HX1.out) 0 (.int .i64 T) rfl
  have p1 := blk_put (cs' := #[.int .i64 T, .int .i64 V, .string ⟨#[]⟩, .string ⟨#[]⟩]) p0 1 (.int .i64 V) rfl
  have p2 := blk_put (cs' := #[.int .i64 T, .int .i64 V, .string ids, .string ⟨#[]⟩]) p1 2 (.string ids) rfl
  have p3 := blk_put (cs' := #[.int .i64 T, .int .i64 V, .string ids, .string bd]) p2 3 (.string bd) rfl
  have HP := Aside0.mk p3
  have hc0 := blk_cell HX1.out 0
  have hc1 := blk_cell HX1.out 1
  have hc2 := blk_cell HX1.out 2
  have hc3 := blk_cell HX1.out 3
  have hf0 := blk_frozen HX1.out 0
  have hf1 := blk_frozen HX1.out 1
  have hf2 := blk_frozen HX1.out 2
  have hf3 := blk_frozen HX1.out 3
  clear p0 p1 p2 p3
  refine wpAnyH_ready (rs := [20]) (by kernel_rfl) (by simp) ?_
  refine AllReadyH.cons (o := { dst := none, op := Go.Op.store 28 (Go.Operand.tmp 2) (Go.Operand.tmp 34), type := 0, pos := "nsq.go:163", after := #[{ on := 19, ground := Go.Ground.data }, { on := 0, ground := Go.Ground.phase }, { on := 1, ground := Go.Ground.phase }, { on := 2, ground := Go.Ground.phase }, { on := 3, ground := Go.Ground.phase }, { on := 4, ground := Go.Ground.phase }, { on := 5, ground := Go.Ground.phase }, { on := 6, ground := Go.Ground.phase }, { on := 7, ground := Go.Ground.phase }, { on := 8, ground := Go.Ground.phase }, { on := 9, ground := Go.Ground.phase }, { on := 10, ground := Go.Ground.phase }, { on := 11, ground := Go.Ground.phase }, { on := 12, ground := Go.Ground.phase }, { on := 13, ground := Go.Ground.phase }, { on := 14, ground := Go.Ground.phase }, { on := 15, ground := Go.Ground.phase }, { on := 16, ground := Go.Ground.phase }, { on := 17, ground := Go.Ground.phase }, { on := 18, ground := Go.Ground.phase }, { on := 19, ground := Go.Ground.phase }], guard := none }) rfl (fun K hK => ?_) AllReadyH.nil
  go_simp
  refine hK.out _ _ (HK.out _ (fun k hk _ => (Below.heap_setCell _ ⟨w.heap.size, 3, none⟩ _ k hk).trans ((Below.heap_setCell _ ⟨w.heap.size, 2, none⟩ _ k hk).trans ((Below.heap_setCell _ ⟨w.heap.size, 1, none⟩ _ k hk).trans (Below.heap_setCell _ ⟨w.heap.size, 0, none⟩ _ k hk))))) (fun hHn => ?_)
  clear hK K hH
  try simp only [Act.put, List.setIfInBounds_toArray, List.set_cons_zero, List.set_cons_succ]
  refine wpAnyH_take (i := 21) (oi := { dst := some 3, op := Go.Op.assign (Go.Operand.const (Go.Value.int Go.IntKind.i64 0)), type := 3, pos := "nsq.go:163", after := #[{ on := 20, ground := Go.Ground.chain }, { on := 0, ground := Go.Ground.phase }, { on := 1, ground := Go.Ground.phase }, { on := 2, ground := Go.Ground.phase }, { on := 3, ground := Go.Ground.phase }, { on := 4, ground := Go.Ground.phase }, { on := 5, ground := Go.Ground.phase }, { on := 6, ground := Go.Ground.phase }, { on := 7, ground := Go.Ground.phase }, { on := 8, ground := Go.Ground.phase }, { on := 9, ground := Go.Ground.phase }, { on := 10, ground := Go.Ground.phase }, { on := 11, ground := Go.Ground.phase }, { on := 12, ground := Go.Ground.phase }, { on := 13, ground := Go.Ground.phase }, { on := 14, ground := Go.Ground.phase }, { on := 15, ground := Go.Ground.phase }, { on := 16, ground := Go.Ground.phase }, { on := 17, ground := Go.Ground.phase }, { on := 18, ground := Go.Ground.phase }, { on := 19, ground := Go.Ground.phase }, { on := 20, ground := Go.Ground.phase }], guard := none }) (v := .int .i64 0) rfl (by kernel_rfl) (by kernel_rfl) (by kernel_rfl) (fun _ _ _ h => h) (Or.inl ⟨by rfl, ?_⟩) (by assumption) ?_
  · intro wi hSw
    obtain ⟨hs0, hs1, hs2, hs3, hs4⟩ := hSw
    go_simp
  try simp only [Act.put, List.setIfInBounds_toArray, List.set_cons_zero, List.set_cons_succ]
  refine wpAnyH_done (by kernel_rfl) ?_ _
  go_wp2_with fail
  refine bodyPost_ret (results_ct rfl _ _ w.heap.size 28 #[.int .i64 T, .int .i64 V, .string ids, .string bd] (0, 0) _ rfl HP.out Try.underlying28 rfl (by kernel_rfl)) rfl ?_
  exact ⟨rfl, below_set (below_set (below_set (below_set (below_drew HB1.out) (Nat.le_refl _)) (Nat.le_refl _)) (Nat.le_refl _)) (Nat.le_refl _)⟩
end Go.Proofs.Ytnbhledkdkchlaa

namespace Go.Proofs.Ytnbhledkdkchlaa
set_option linter.unusedVariables false
set_option linter.unusedSimpArgs false
open Go.RowKit Go.Proofs.YtnbhledkdkchlaaW.PrintWords

theorem be_bigL8 (T : Int) (h0 : 0 ≤ T) (h1 : T < 18446744073709551616) : be (bigL T 8) = T := by
  rw [big8_lit T h0 h1, be8]
  omega
theorem be_bigL2 (T : Int) (h0 : 0 ≤ T) (h1 : T < 65536) : be (bigL T 2) = T := by
  rw [big2_lit T h0 h1, be2]
  omega
theorem msg_back (tm : Int) (h0 : -9223372036854775808 ≤ tm) (h1 : tm < 9223372036854775808) : IntKind.i64.wrap (IntKind.u64.wrap tm) = tm := by
  rw [IntKind.wrap_u64, IntKind.wrap_i64]
  omega
/-- The message's text. -/
def msgS (T att : Int) (id body : ByteArray) : ByteArray := ((strOfNums (bigL T 8) ++ strOfNums (bigL att 2)) ++ id) ++ body
theorem msgS_bytes (T att : Int) (id body : ByteArray) : bytesOf (msgS T att id body) = msgL T att id body := by
  unfold msgS msgL
  rw [fr_bytes_append, fr_bytes_append, fr_bytes_append, fr_bytes_str (bigL_rng _ _), fr_bytes_str (bigL_rng _ _)]
theorem msgS_str (T att : Int) (id body : ByteArray) : strOfNums (msgL T att id body) = msgS T att id body := by rw [← msgS_bytes, fr_str_bytesOf]
theorem msgS_size (T att : Int) (id body : ByteArray) (hid : id.size = 16) : (msgS T att id body).size = 26 + body.size := by
  rw [← bytesOf_length, msgS_bytes]
  unfold msgL
  rw [List.length_append, List.length_append, List.length_append, bigL_length, bigL_length, bytesOf_length, bytesOf_length]
  omega
theorem msgL_parts (T att : Int) (id body : ByteArray) (hid : id.size = 16) :
    (msgL T att id body).take 8 = bigL T 8 ∧ ((msgL T att id body).drop 8).take 2 = bigL att 2 ∧ ((msgL T att id body).drop 10).take 16 = bytesOf id ∧ (msgL T att id body).drop 26 = bytesOf body := by
  have e8 := bigL_length T 8
  have e2 := bigL_length att 2
  have ei : (bytesOf id).length = 16 := by rw [bytesOf_length]; exact hid
  unfold msgL
  generalize bigL T 8 = a at *
  generalize bigL att 2 = b at *
  generalize bytesOf id = c at *
  generalize bytesOf body = d at *
  refine ⟨?_, ?_, ?_, ?_⟩
  · rw [List.append_assoc, List.append_assoc, ← e8, List.take_left']
    rfl
  · rw [List.append_assoc, List.append_assoc, ← e8, List.drop_left', ← e2, List.take_left']
    · rfl
    · rfl
  · rw [show a ++ b ++ c ++ d = (a ++ b) ++ (c ++ d) by simp, List.drop_left' (by rw [List.length_append]; omega), List.take_left' ei]
  · rw [List.drop_left' (by rw [List.length_append, List.length_append]; omega)]
theorem eql28 (a b : Int) (c d : ByteArray) (w : World) : (binOp .eql 28 (.agg #[.int .i64 a, .int .i64 b, .string c, .string d]) (.agg #[.int .i64 a, .int .i64 b, .string c, .string d])).run Try.prog w = .ok (.bool true) w := by
  have hp : Try.prog.stoodInHeld 28 = false := by kernel_rfl
  have h : (Op.equalIn (9999 + 1) 28 (.agg #[.int .i64 a, .int .i64 b, .string c, .string d]) (.agg #[.int .i64 a, .int .i64 b, .string c, .string d])).run Try.prog w = .ok true w := by
    refine eqA_of (r := true) Try.underlying28 hp ?_
    refine eqf_end (a := .int .i64 a) (b := .int .i64 a) (by rfl) (by kernel_rfl) (by kernel_rfl) ((by have h := run_equalIn_int (P := Try.prog) w 9998 2 .i64 .i64 a a Try.underlying2; rw [h]; simp)) ?_
    refine eqf_end (a := .int .i64 b) (b := .int .i64 b) (by rfl) (by kernel_rfl) (by kernel_rfl) ((by have h := run_equalIn_int (P := Try.prog) w 9998 3 .i64 .i64 b b Try.underlying3; rw [h]; simp)) ?_
    refine eqf_end (a := .string c) (b := .string c) (by rfl) (by kernel_rfl) (by kernel_rfl) ((by have h := run_equalIn_string (P := Try.prog) w 9998 9 c c Try.underlying9; rw [h]; simp)) ?_
    exact eqf_last (a := .string d) (b := .string d) (by rfl) (by kernel_rfl) (by kernel_rfl) ((by have h := run_equalIn_string (P := Try.prog) w 9998 9 d d Try.underlying9; rw [h]; simp))
  rw [run_eql_struct]
  rw [show (10000 : Nat) = 9999 + 1 from rfl, h]
  rfl
end Go.Proofs.Ytnbhledkdkchlaa
