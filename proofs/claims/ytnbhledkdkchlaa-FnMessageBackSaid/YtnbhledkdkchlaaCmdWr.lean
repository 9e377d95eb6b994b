/- Command.WriteTo. (seat r2) -/
import Derived.Test.YtnbhledkdkchlaaWrite
import Derived.Deep.RegionWith
import Derived.Lib.SlBytesConst
namespace Go.Proofs.Ytnbhledkdkchlaa
set_option linter.unusedVariables false
set_option linter.unusedSimpArgs false
open Go.RowKit Go.Proofs.YtnbhledkdkchlaaW.PrintWords
open PAll (info5)

/-- The parameters' bytes, a blank ahead of each. -/
def parL : List ByteArray → List Int
  | [] => []
  | s :: r => 32 :: bytesOf s ++ parL r
theorem parL_snoc : ∀ (l : List ByteArray) (j : Nat) (s : ByteArray), l[j]? = some s → parL (l.take (j + 1)) = parL (l.take j) ++ 32 :: bytesOf s := by
  intro l
  induction l with
  | nil => intro j s h; simp at h
  | cons a l ih =>
    intro j s h
    cases j with
    | zero => simp at h; subst h; simp [parL]
    | succ j =>
      have := ih j s (by simpa using h)
      rw [List.take_succ_cons, List.take_succ_cons]
      simp only [parL]
      rw [this]
      simp
theorem parL_size : ∀ (l : List ByteArray), (∀ s ∈ l, s.size ≤ 1000000) → (parL l).length ≤ 1000001 * l.length := by
  intro l
  induction l with
  | nil => intro _; simp [parL]
  | cons a l ih =>
    intro h
    have h1 := ih (fun x hx => h x (by simp [hx]))
    have h2 := h a (by simp)
    have h3 := bytesOf_length a
    simp only [parL, List.length_append, List.length_cons]
    omega
theorem elem_at {e : Nat} {w : World} {base : Nat} {ok : Nat → Prop} {v : Value} {ps : List (Nat × Nat × Nat)} (hR : ksl.R e w base ok v ps) {j : Nat} {p : Nat × Nat × Nat} (hp : ps[j]? = some p) :
    ∃ ad c, v = .slice (some ad) ps.length c ∧ w.cell? (ad.add j) = some (.slice (some ⟨p.1, 0, none⟩) p.2.1 p.2.2) := by
  obtain ⟨A, c, rfl, hl, hC⟩ := Kd.R_reads hR
  obtain ⟨ad, rfl, hc⟩ := at_enc hC hp
  exact ⟨ad, c, rfl, hc⟩

theorem nil_ahead (n : Nat) (a : Addr) (w : World) : (nilAhead (n + 1) 78 (.pointer (some a)) "Write").run Try.prog w = .ok (some false) w := by kernel_rfl
theorem method_write (n : Nat) (a : Addr) (w : World) : (method (n + 1) 78 (.pointer (some a)) "Write").run Try.prog w = .ok (112, .pointer (some a)) w := by kernel_rfl
/-- What the writing of a command carries. -/
structure WSt (w wc : World) (bp : Nat) (xs : List Int) : Prop where
  bf : BF wc (w.heap.size + 1) bp xs
  bk : BK w wc w.heap.size bp
  buf : wc.heap[w.heap.size]? = some (.cells #[.int .u8 0, .int .u8 0, .int .u8 0, .int .u8 0] 115 (0, 0))
  size : w.heap.size + 1 ≤ wc.heap.size
theorem WSt.heap {w wc : World} {bp : Nat} {xs : List Int} (h : WSt w wc bp xs) {k : Nat} (hk : k < w.heap.size) (hn : k ≠ bp) : wc.heap[k]? = w.heap[k]? := h.bk.block k hk hn
theorem BK.lower {w w' : World} {B B' bp : Nat} (h : BK w w' B bp) (hB : B' ≤ B) : BK w w' B' bp := ⟨h.os, h.tape, h.output, h.size, fun k hk hn => h.block k (by omega) hn⟩
theorem WSt.step {w wc w1 : World} {bp : Nat} {xs ys : List Int} (h : WSt w wc bp xs) (hbp : bp < w.heap.size) (hf : BF w1 (w.heap.size + 1) bp ys) (hk : BK wc w1 (w.heap.size + 1) bp) : WSt w w1 bp ys :=
  ⟨hf, h.bk.trans (hk.lower (by omega)), (hk.block w.heap.size (by omega) (by omega)).trans h.buf, by have := h.size; have := hk.size; omega⟩
theorem WSt.below {w wc w1 : World} {bp : Nat} {xs : List Int} (h : WSt w wc bp xs) (hb : Below wc.heap.size wc w1) : WSt w w1 bp xs :=
  ⟨h.bf.move hb, h.bk.trans (BK.of_below hb (by have := h.size; omega)), blk_below h.buf hb, by have := h.size; have := hb.size; omega⟩
theorem typed_ne {w : World} {k g t u : Nat} {cs cs' : Array Value} {fr fr' : Nat × Nat} (h : w.heap[k]? = some (.cells cs t fr)) (h' : w.heap[g]? = some (.cells cs' u fr')) (hn : t ≠ u) : k ≠ g := by
  rintro rfl
  rw [h] at h'
  injection h' with h'
  injection h' with _ h'
  exact hn h'
theorem BlkR.past {w wc : World} {bp b c : Nat} {xs : List Int} {s : ByteArray} {cs : Array Value} (h : BlkR w b c s) (hs : WSt w wc bp xs) (hb : w.heap[bp]? = some (.cells cs 80 (0, 0))) : BlkR wc b c s := by
  obtain ⟨cs', fr, hk⟩ := h.2.1
  exact h.move (hs.heap h.lt (typed_ne hk hb (by decide)))
theorem row_past {w wc : World} {bp B0 j : Nat} {xs : List Int} {v : Value} {ps : List (Nat × Nat × Nat)} {cs : Array Value} {p : Nat × Nat × Nat} (hR : ksl.R 69 w B0 (fun k => B0 ≤ k) v ps) (hs : WSt w wc bp xs) (hb : w.heap[bp]? = some (.cells cs 80 (0, 0))) (hp : ps[j]? = some p) :
    ∃ ad c, v = .slice (some ad) ps.length c ∧ wc.cell? (ad.add j) = some (.slice (some ⟨p.1, 0, none⟩) p.2.1 p.2.2) := by
  obtain ⟨ad, c, rfl, hc⟩ := elem_at hR hp
  refine ⟨ad, c, rfl, ?_⟩
  obtain ⟨_, _, hlt, q, hq, cells, hq2⟩ := (Kd.R_bound hR).1 ad.block rfl
  have hq69 : q = 69 := by simpa [ksl, Kd.scalar] using hq
  subst hq69
  rw [← hc]
  exact World.cell?_of_block (by rw [addr_block]; exact hs.heap hlt (typed_ne hq2 hb (by decide)))
theorem reads1 (w : World) (a : Int) : ReadsInt (w.alloc (.cells #[.int .u8 a] 5 (1, 2))) .u8 (some ⟨w.heap.size, 0, none⟩) 1 [a] :=
  ⟨rfl, by decide, fun _ => ⟨_, rfl, fun j hj => by
    match j, hj with
    | 0, _ => exact cell_of_row _ w.heap.size 0 _ 5 (1, 2) (heap_alloc_new w _)⟩⟩
theorem reads4 {w : World} {g : Nat} {t : TypeId} (a b c d : Int) (hb : w.heap[g]? = some (.cells #[.int .u8 a, .int .u8 b, .int .u8 c, .int .u8 d] t (0, 0))) : ReadsInt w .u8 (some ⟨g, 0, none⟩) 4 [a, b, c, d] :=
  reads_blk hb rfl (by decide) fun j hj => by
    match j, hj with
    | 0, _ => rfl
    | 1, _ => rfl
    | 2, _ => rfl
    | 3, _ => rfl

theorem BF.grown {w w1 : World} {B bp g : Nat} {xs : List Int} (h : BF w B bp xs) (hg : w.grownBy w1 (some g)) (hgB : g < B) (hn : bp ≠ g) : BF w1 B bp xs := by
  obtain ⟨v, h1, h2⟩ := h
  refine ⟨v, blk_grown h1 hg (fun he => hn (by injection he)), own_move h2 (fun k hk => hg.block k (own_lt h2 k hk) (fun he => ?_))⟩
  injection he with he
  have := own_base h2 k hk
  omega
/-- A command's bytes. -/
def cmdL (name : ByteArray) (l : List ByteArray) (body : Option ByteArray) : List Int := bytesOf name ++ parL l ++ [10] ++ (match body with | none => [] | some s => bigL s.size 4 ++ bytesOf s)
/-- What the writing of a command answers. -/
def CwR (w : World) (bp : Nat) (text : List Int) (e : Ending) (w' : World) : Prop :=
  e = .returned (.tuple #[.int .i64 text.length, .nilIface]) ∧ BF w' (w.heap.size + 1) bp text ∧ BK w w' w.heap.size bp

set_option maxHeartbeats 2000000 in
set_option maxRecDepth 100000 in
theorem cmdWrite_any {B0 cp nb nc bp : Nat} {v1 vb : Value} {ps : List (Nat × Nat × Nat)} {name : ByteArray} {l : List ByteArray} {body : Option ByteArray} (w : World) (hc : CmdB w B0 cp nb nc v1 vb ps name l body)
    (hb : w.heap[bp]? = some (.cells #[.slice none 0 0] 80 (0, 0))) (hl : l.length ≤ 8) (hn : name.size ≤ 1000000) (hls : ∀ s ∈ l, s.size ≤ 1000000) (hbz : ∀ s, body = some s → s.size ≤ 1000000) :
    Calls Try.prog 48 #[.pointer (some ⟨cp, 0, none⟩), .iface 78 (.pointer (some ⟨bp, 0, none⟩))] w fun e w' => CwR w bp (cmdL name l body) e w' := by
  have hc0 : ∀ o, (w.alloc o).cell? ⟨cp, 0, none⟩ = some (.slice (some ⟨nb, 0, none⟩) name.size nc) := fun o => blk_cell (blk_alloc hc.cell o) 0
  have hlt := blk_lt hc.cell
  have hltb := blk_lt hb
  have hcpbp : cp ≠ bp := blk_ne hc.cell hb (by decide)
  have hna := fun n w => nil_ahead n ⟨bp, 0, none⟩ w
  have hmw := fun n w => method_write n ⟨bp, 0, none⟩ w
  have hcv := fun (w : World) (C : Array Value) (n c : Nat) => Lib.run_convert_bytes_const (P := Try.prog) w 69 5 C n c Try.underlying69 Try.underlying5
  have qT : ∀ (w : World) (a : Option Addr) (n c n' c' : Nat), (binOp .neq 69 (.slice a n c) (.slice none n' c')).run Try.prog w = .ok (.bool (!a.isNone)) w := fun w a n c n' c' => run_neq_slice_nil_any w _ _ a n c n' c' Try.underlying69
  have HBF := Aside0.mk (BF.nil (w.heap.size + 1) hb)
  have HW := Aside0.mk (fun (wi : World) (h : Below w.heap.size w wi) (hs : w.heap.size + 1 ≤ wi.heap.size) => write_any wi (HBF.out.move h) (some ⟨nb, 0, none⟩) name.size nc (bytesOf name) (hc.nm.move (h.block _ hc.nm.lt)).2.2 hs (by simp; omega))
  have HBK := Aside0.mk (show WSt w (w.alloc (.cells #[.int .u8 0, .int .u8 0, .int .u8 0, .int .u8 0] 115)) bp [] from ⟨HBF.out.move (below_alloc (Below.refl _ _) _), BK.of_below (below_alloc (Below.refl _ _) _) (Nat.le_refl _), heap_alloc_new w _, by simp⟩)
  have HC := Aside0.mk hc
  have HB := Aside0.mk hb
  have HLTB := Aside0.mk hltb
  have HNZ := Aside0.mk hn
  have HLS := Aside0.mk hls
  have HBZ := Aside0.mk hbz
  clear hc hb hn hls hbz
  go_enter Try.func48, Try.ntmps48
  go_upto_region 3 with fail
  go_cut [8, 9] (fun v8 v9 wc => v8 = .int .i64 name.size ∧ v9 = .nilIface ∧ Aside0 (WSt w wc bp (bytesOf name)))
  case first =>
    go_region_with (go_at_call 112; refine (HW.out _ (by first | exact below_alloc (Below.refl _ _) _ | exact below_drew (below_alloc (Below.refl _ _) _)) (by first | (simp; done) | (simp; omega))).mono ?_; rintro e w1 ⟨rfl, hbf, hbk⟩)
    all_goals
      have HX := Aside0.mk (show WSt w w1 bp (bytesOf name) by
        first
        | exact HBK.out.step HLTB.out hbf hbk
        | exact (HBK.out.below (below_drew (Below.refl _ _))).step HLTB.out hbf hbk)
      clear hbf hbk
      go_wp2_with fail
      go_meet
      exact ⟨rfl, rfl, HX⟩
  case rest =>
    obtain ⟨rfl, rfl, HX⟩ := hcut
    clear HW HBK hc0
    have hcell1 := (blk_cell (HC.out.cell) 1)
    have hc1 : wc.cell? ⟨cp, 1, none⟩ = some v1 := blk_cell ((HX.out.heap hlt hcpbp).trans HC.out.cell) 1
    obtain ⟨A1, c1, rfl⟩ := Kd.R_slice HC.out.row
    have hpl : ps.length = l.length := HC.out.els.1
    have hpl8 : (ps.length : Int) ≤ 8 := by omega
    clear hcell1
    go_wp2_with fail
    go_loopg [6, 41] ps.length (fun gk v6 v41 wr => ∃ (j : Nat) (xs : List Int), v6 = .int .i64 xs.length ∧ v41 = .int .i64 j ∧ Aside0 (j ≤ ps.length ∧ gk = ps.length - j) ∧ Aside0 (xs = bytesOf name ++ parL (l.take j)) ∧ Aside0 (WSt w wr bp xs))
    case atStart => exact ⟨0, bytesOf name, by rw [bytesOf_length]; congr 1; unfold wrap64; have := HNZ.out; omega, rfl, ⟨by omega⟩, ⟨by simp [parL]⟩, HX⟩
    case round =>
      clear HX hc1
      obtain ⟨j, xs, rfl, rfl, HJ, HXS, HS⟩ := hrel
      have hxz : (xs.length : Int) ≤ 10000000 := by
        have h1 := parL_size (l.take j) (fun s hs => HLS.out s (List.mem_of_mem_take hs))
        have h2 := HNZ.out
        have h3 : (l.take j).length ≤ 8 := by rw [List.length_take]; omega
        have h4 := bytesOf_length name
        rw [HXS.out, List.length_append]
        omega
      by_cases hj : j < ps.length
      · obtain ⟨p, hp⟩ : ∃ p, ps[j]? = some p := ⟨_, List.getElem?_eq_getElem hj⟩
        obtain ⟨s, hs⟩ : ∃ s, l[j]? = some s := ⟨_, List.getElem?_eq_getElem (by omega)⟩
        obtain ⟨b, n, c⟩ := p
        obtain ⟨hbn, hblk⟩ := HC.out.els.2 j _ s hp hs
        simp only at hbn hblk
        subst hbn
        obtain ⟨ad, c', hv, hcell⟩ := row_past HC.out.row HS.out HB.out hp
        injection hv with hA _ hc'
        subst hA
        have HBR := Aside0.mk (hblk.past HS.out HB.out).2.2
        have hsz : s.size ≤ 1000000 := HLS.out s (List.mem_of_getElem? hs)
        have HW1 := Aside0.mk (write_any (wr.alloc (.cells #[.int .u8 32] 5 (1, 2))) (HS.out.below (below_alloc (Below.refl _ _) _)).bf (some ⟨wr.heap.size, 0, none⟩) 1 1 [32] (reads1 wr 32) (HS.out.below (below_alloc (Below.refl _ _) _)).size (by omega))
        have HW2 := Aside0.mk (fun (wi : World) (h : WSt w wi bp (xs ++ [32])) => write_any wi h.bf (some ⟨b, 0, none⟩) s.size c (bytesOf s) (hblk.past h HB.out).2.2 h.size (by rw [List.length_append, List.length_singleton]; omega))
        have HXN := Aside0.mk (show (xs ++ [32]) ++ bytesOf s = bytesOf name ++ parL (l.take (j + 1)) by rw [HXS.out, parL_snoc l j s hs]; simp)
        clear hp hs hblk hc'
        go_wp2_with fail
        refine (HW1.out).mono ?_
        rintro e w2 ⟨rfl, hbf, hbk⟩
        have HS2 := Aside0.mk ((HS.out.below (below_alloc (Below.refl _ _) _)).step HLTB.out hbf hbk)
        clear hbf hbk HW1
        go_wp2_with fail
        refine (HW2.out _ HS2.out).mono ?_
        rintro e w3 ⟨rfl, hbf, hbk⟩
        have HS3 := Aside0.mk (HS2.out.step HLTB.out hbf hbk)
        clear hbf hbk HW2
        go_wp2_with fail
        go_roundg (ps.length - (j + 1))
        case measure => have := HJ.out.2; omega
        case rel =>
          refine ⟨j + 1, (xs ++ [32]) ++ bytesOf s, ?_, by go_num, ⟨by omega⟩, ⟨HXN.out⟩, HS3⟩
          have hbl := bytesOf_length s
          congr 1
          simp only [List.length_append, List.length_singleton, wrap64]
          omega
      · have hje : j = ps.length := by have := HJ.out.1; omega
        subst hje
        have HXS2 := Aside0.mk (show xs = bytesOf name ++ parL l by rw [HXS.out, hpl, List.take_length])
        clear HXS
        have HW1 := Aside0.mk (write_any (wr.alloc (.cells #[.int .u8 10] 5 (1, 2))) (HS.out.below (below_alloc (Below.refl _ _) _)).bf (some ⟨wr.heap.size, 0, none⟩) 1 1 [10] (reads1 wr 10) (HS.out.below (below_alloc (Below.refl _ _) _)).size (by omega))
        go_wp2_with fail
        refine (HW1.out).mono ?_
        rintro e w2 ⟨rfl, hbf, hbk⟩
        have HS2 := Aside0.mk ((HS.out.below (below_alloc (Below.refl _ _) _)).step HLTB.out hbf hbk)
        clear hbf hbk HW1
        have hc2 : w2.cell? ⟨cp, 2, none⟩ = some vb := blk_cell ((HS2.out.heap hlt hcpbp).trans HC.out.cell) 2
        cases body with
        | none =>
          have hvb := HC.out.nob rfl
          subst hvb
          go_wp2_with fail
          go_ret2
          have hX := HXS2.out
          have ht : cmdL name l none = xs ++ [10] := by rw [hX]; simp [cmdL]
          refine ⟨?_, ?_, HS2.out.bk⟩
          · rw [ht, List.length_append, List.length_singleton]
            congr 4
            try (unfold wrap64; omega)
          · rw [ht]
            exact HS2.out.bf
        | some bd =>
          obtain ⟨bb, bc, rfl, hblk⟩ := HC.out.bod bd rfl
          have hbz : bd.size ≤ 1000000 := HBZ.out bd rfl
          have hbzi : (bd.size : Int) ≤ 1000000 := by omega
          have HP := Aside0.mk (put32 (o := 0) (n := 4) (c := 4) (v := (bd.size : Int)) w2 HS2.out.buf (by simp) (by omega) (by omega) (by omega))
          have HW3 := Aside0.mk (fun (wi : World) (h : BF wi (w.heap.size + 1) bp (xs ++ [10])) (hs : w.heap.size + 1 ≤ wi.heap.size) (hr : ReadsInt wi .u8 (some ⟨w.heap.size, 0, none⟩) 4 (bigL bd.size 4)) => write_any wi h (some ⟨w.heap.size, 0, none⟩) 4 4 (bigL bd.size 4) hr hs (by rw [List.length_append, List.length_singleton]; omega))
          have HW4 := Aside0.mk (fun (wi : World) (h : BF wi (w.heap.size + 1) bp ((xs ++ [10]) ++ bigL bd.size 4)) (hs : w.heap.size + 1 ≤ wi.heap.size) (hr : ReadsInt wi .u8 (some ⟨bb, 0, none⟩) bd.size (bytesOf bd)) => write_any wi h (some ⟨bb, 0, none⟩) bd.size bc (bytesOf bd) hr hs (by rw [List.length_append, List.length_append, List.length_singleton, bigL_length]; omega))
          have HBB := Aside0.mk hblk
          clear hblk
          go_wp2_with fail
          refine (HP.out).mono ?_
          rintro e w3 ⟨rfl, hb3, hg3⟩
          have hne : bp ≠ w.heap.size := by omega
          have HF3 := Aside0.mk (HS2.out.bf.grown hg3 (by omega) hne)
          have HS3 := Aside0.mk (show w.heap.size + 1 ≤ w3.heap.size from Nat.le_trans HS2.out.size hg3.size)
          have HK3 := Aside0.mk (show BK w w3 w.heap.size bp from HS2.out.bk.trans ⟨hg3.os, hg3.tape, hg3.output, hg3.size, fun k hk _ => hg3.block k (by have := HS2.out.size; omega) (by intro he; injection he with he; omega)⟩)
          have HR3 := Aside0.mk (show ReadsInt w3 .u8 (some ⟨w.heap.size, 0, none⟩) 4 (bigL bd.size 4) by
            have e4 : bigL (bd.size : Int) 4 = [(bd.size : Int) / 16777216, (bd.size : Int) / 65536 % 256, (bd.size : Int) / 256 % 256, (bd.size : Int) % 256] := by
              simp only [bigL]
              congr 1
              · omega
              · simp
            rw [e4]
            exact reads4 _ _ _ _ (by simpa [set4] using hb3))
          have hc23 : w3.cell? ⟨cp, 2, none⟩ = some (.slice (some ⟨bb, 0, none⟩) bd.size bc) := by rw [← hc2]; exact World.cell?_of_block (hg3.block cp (by have := HS2.out.size; show cp < _; omega) (by intro he; injection he with he; omega))
          clear hb3 hg3 HP hc2
          go_wp2_with fail
          refine (HW3.out _ HF3.out HS3.out HR3.out).mono ?_
          rintro e w4 ⟨rfl, hbf, hbk⟩
          have HF4 := Aside0.mk hbf
          have HS4 := Aside0.mk (Nat.le_trans HS3.out hbk.size)
          have HK4 := Aside0.mk (HK3.out.trans (hbk.lower (by omega)))
          have hc24 : w4.cell? ⟨cp, 2, none⟩ = some (.slice (some ⟨bb, 0, none⟩) bd.size bc) := by rw [← hc23]; exact World.cell?_of_block (hbk.block cp (by omega) hcpbp)
          have HRB := Aside0.mk (show ReadsInt w4 .u8 (some ⟨bb, 0, none⟩) bd.size (bytesOf bd) by
            obtain ⟨cs', fr, hk⟩ := HBB.out.2.1
            exact (HBB.out.move (HK4.out.block _ HBB.out.lt (typed_ne hk HB.out (by decide)))).2.2)
          clear hbf hbk HW3 hc23
          go_wp2_with fail
          go_region_with (go_at_call 112; first | (refine (HW4.out _ HF4.out HS4.out HRB.out).mono ?_; rintro e w5 ⟨rfl, hbf, hbk⟩) | (refine (HW4.out _ (HF4.out.move (below_drew (Below.refl _ _))) HS4.out HRB.out).mono ?_; rintro e w5 ⟨rfl, hbf, hbk⟩))
          all_goals
            have HF5 := Aside0.mk hbf
            have HK5 := Aside0.mk (show BK w w5 w.heap.size bp from HK4.out.trans (BK.lower (B := w.heap.size + 1) ⟨hbk.os, hbk.tape, hbk.output, hbk.size, hbk.block⟩ (by omega)))
            clear hbf hbk
            go_wp2_with fail
            go_ret2
            have hX := HXS2.out
            have ht : cmdL name l (some bd) = xs ++ [10] ++ bigL bd.size 4 ++ bytesOf bd := by rw [hX]; simp [cmdL]
            refine ⟨?_, ?_, HK5.out⟩
            · have hbl := bytesOf_length bd
              have e : ((cmdL name l (some bd)).length : Int) = (xs.length : Int) + 1 + 4 + (bd.size : Int) := by
                rw [ht, List.length_append, List.length_append, List.length_append, List.length_singleton, bigL_length]
                omega
              rw [e]
              rfl
            · rw [ht]
              exact HF5.out
end Go.Proofs.Ytnbhledkdkchlaa
