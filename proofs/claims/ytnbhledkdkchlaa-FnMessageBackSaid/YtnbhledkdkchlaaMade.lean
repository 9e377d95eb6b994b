/- impl.made: a command as the program has it. (seat r2) -/
import Derived.Test.YtnbhledkdkchlaaFr6
import Derived.Test.YtnbhledkdkchlaaFnFrameRow
import Derived.Test.YtnbhledkdkchlaaOpenT
import Derived.Test.YtnbhledkdkchlaaPlawszzFits1
namespace Go.Proofs.Ytnbhledkdkchlaa
set_option linter.unusedVariables false
set_option linter.unusedSimpArgs false
open Go.RowKit Go.Proofs.YtnbhledkdkchlaaW.PrintWords
open PAll (info5)

/-- A block of bytes (type 5) that reads as a text. -/
def BlkR (w : World) (b c : Nat) (s : ByteArray) : Prop :=
  s.size ≤ c ∧ (∃ cs fr, w.heap[b]? = some (.cells cs 5 fr)) ∧ ReadsInt w .u8 (some ⟨b, 0, none⟩) s.size (bytesOf s)
theorem BlkR.move {w w' : World} {b c : Nat} {s : ByteArray} (h : BlkR w b c s) (hk : w'.heap[b]? = w.heap[b]?) : BlkR w' b c s := by
  obtain ⟨h1, ⟨cs, fr, hb⟩, h3⟩ := h
  exact ⟨h1, ⟨cs, fr, hk.trans hb⟩, reads_keep h3 (fun ad he _ => by injection he with he; subst he; exact hk)⟩
theorem BlkR.lt {w : World} {b c : Nat} {s : ByteArray} (h : BlkR w b c s) : b < w.heap.size := by
  obtain ⟨h1, ⟨cs, fr, hb⟩, h3⟩ := h
  exact (Array.getElem?_eq_some_iff.1 hb).1
theorem BlkR.new (w : World) (s : ByteArray) (hs : s.size ≤ 9223372036854775807) : BlkR (Lib.bytesWorld w 5 s) w.heap.size (grownCap w s.size 0 5) s :=
  ⟨grownCap_ge _ _ _ _, ⟨_, _, Lib.bytesWorld_at_new w 5 s⟩, bytes_reads w 5 s hs⟩

/-- Slices of bytes, by block and capacity. -/
def ksl : Kd (Nat × Nat × Nat) := Kd.scalar (fun p => .slice (some ⟨p.1, 0, none⟩) p.2.1 p.2.2) (fun _ => rfl)
/-- Slices that read as texts. -/
def Elems (w : World) (ps : List (Nat × Nat × Nat)) (ls : List ByteArray) : Prop :=
  ps.length = ls.length ∧ ∀ (j : Nat) p s, ps[j]? = some p → ls[j]? = some s → p.2.1 = s.size ∧ BlkR w p.1 p.2.2 s
theorem Elems.move {w w' : World} {ps : List (Nat × Nat × Nat)} {ls : List ByteArray} (h : Elems w ps ls) (hk : ∀ (k : Nat) (cs : Array Value) (fr : Nat × Nat), w.heap[k]? = some (Obj.cells cs 5 fr) → w'.heap[k]? = w.heap[k]?) : Elems w' ps ls := by
  refine ⟨h.1, fun j p s hp hs => ?_⟩
  obtain ⟨h1, h2⟩ := h.2 j p s hp hs
  obtain ⟨cs, fr, hb⟩ := h2.2.1
  exact ⟨h1, h2.move (hk _ _ _ hb)⟩
theorem Elems.snoc {w : World} {ps : List (Nat × Nat × Nat)} {ls : List ByteArray} (h : Elems w ps ls) {b c : Nat} {s : ByteArray} (hs : BlkR w b c s) : Elems w (ps ++ [(b, s.size, c)]) (ls ++ [s]) := by
  refine ⟨by simp [h.1], fun j p x hp hx => ?_⟩
  by_cases hj : j < ps.length
  · rw [List.getElem?_append_left hj] at hp
    rw [List.getElem?_append_left (by rw [← h.1]; exact hj)] at hx
    exact h.2 j p x hp hx
  · rw [List.getElem?_append_right (by omega)] at hp
    rw [List.getElem?_append_right (by rw [← h.1]; omega)] at hx
    have e : j - ps.length = 0 := by
      have := (List.getElem?_eq_some_iff.1 hp).1
      simp at this
      omega
    have e2 : j - ls.length = 0 := by rw [← h.1]; exact e
    rw [e] at hp
    rw [e2] at hx
    simp at hp hx
    subst hp hx
    exact ⟨rfl, hs⟩
theorem R_keep_typed {e : Nat} {W w1 : World} {base : Nat} {ok : Nat → Prop} {v : Value} {ps : List (Nat × Nat × Nat)} (hR : ksl.R e W base ok v ps) (hg : W.grownBy w1 v.ownBlock) {k t : Nat} {cs : Array Value} {fr : Nat × Nat}
    (hb : W.heap[k]? = some (.cells cs t fr)) (ht : t ≠ e) : w1.heap[k]? = W.heap[k]? := by
  have hlt : k < W.heap.size := (Array.getElem?_eq_some_iff.1 hb).1
  refine hg.block k hlt (fun he => ?_)
  obtain ⟨_, _, ho, _⟩ := hR
  obtain ⟨cells, hc⟩ := own_typed ho k he.symm
  rw [hb] at hc
  injection hc with hc
  injection hc with _ hc
  exact ht hc

/-- A command in memory. -/
structure CmdB (w : World) (B cp nb nc : Nat) (v1 vb : Value) (ps : List (Nat × Nat × Nat)) (name : ByteArray) (ls : List ByteArray) (body : Option ByteArray) : Prop where
  cell : w.heap[cp]? = some (.cells #[.slice (some ⟨nb, 0, none⟩) name.size nc, v1, vb] 111 (0, 0))
  nm : BlkR w nb nc name
  row : ksl.R 69 w B (fun k => B ≤ k) v1 ps
  els : Elems w ps ls
  nob : body = none → vb = .slice none 0 0
  bod : ∀ s, body = some s → ∃ bb bc, vb = .slice (some ⟨bb, 0, none⟩) s.size bc ∧ BlkR w bb bc s

/-- Before a body is laid: what the loop carries. -/
structure Pre (w w' : World) (vn : Nat) (v1 : Value) (ps : List (Nat × Nat × Nat)) (name : ByteArray) (ls : List ByteArray) (arg : Array Value) : Prop where
  bel : Below w.heap.size w w'
  box : w'.heap[w.heap.size]? = some (.cells arg 35 (0, 0))
  cell : w'.heap[w.heap.size + 2]? = some (.cells #[.slice (some ⟨w.heap.size + 1, 0, none⟩) name.size vn, v1, .slice none 0 0] 111 (0, 0))
  nm : BlkR w' (w.heap.size + 1) vn name
  row : ksl.R 69 w' (w.heap.size + 3) (fun k => w.heap.size + 3 ≤ k) v1 ps
  els : Elems w' ps ls
  size : w.heap.size + 3 ≤ w'.heap.size

theorem Pre.put {w wr w3 : World} {vn cap : Nat} {v1 v1' : Value} {ps : List (Nat × Nat × Nat)} {name s : ByteArray} {ls : List ByteArray} {arg : Array Value} (h : Pre w wr vn v1 ps name ls arg) (hs : s.size ≤ 9223372036854775807) (hcap : cap = grownCap wr s.size 0 5)
    (hR : ksl.R 69 w3 (w.heap.size + 3) (fun k => w.heap.size + 3 ≤ k) v1' (ps ++ [(wr.heap.size, s.size, cap)])) (hg : (Lib.bytesWorld wr 5 s).grownBy w3 v1.ownBlock) :
    Pre w (w3.setCell ⟨w.heap.size + 2, 1, none⟩ v1') vn v1' (ps ++ [(wr.heap.size, s.size, cap)]) name (ls ++ [s]) arg := by
  have hsz := h.size
  have hWB : Below wr.heap.size wr (Lib.bytesWorld wr 5 s) := bytes_below (Below.refl _ _) (Nat.le_refl _) 5 s
  have hRB : ksl.R 69 (Lib.bytesWorld wr 5 s) (w.heap.size + 3) (fun k => w.heap.size + 3 ≤ k) v1 ps := Kd.R_below h.row hWB
  have hown : ∀ k, v1.ownBlock = some k → w.heap.size + 3 ≤ k := fun k hk => (Kd.R_bound h.row).1 k hk |>.1
  have low : ∀ k, k < w.heap.size + 3 → w3.heap[k]? = wr.heap[k]? := fun k hk =>
    (hg.block k (by rw [Lib.bytesWorld_size]; omega) (fun he => by have := hown k he.symm; omega)).trans (hWB.block k (by omega))
  have b2 : (w3.setCell ⟨w.heap.size + 2, 1, none⟩ v1').heap[w.heap.size + 2]? = _ := blk_put ((low _ (by omega)).trans h.cell) 1 v1' rfl
  have far : ∀ k, k ≠ w.heap.size + 2 → (w3.setCell ⟨w.heap.size + 2, 1, none⟩ v1').heap[k]? = w3.heap[k]? := fun k hk => Below.heap_setCell _ _ _ k hk
  refine ⟨?_, ?_, b2, ?_, Kd.R_far hR (fun k hk => by show k ≠ w.heap.size + 2; omega) _, ?_, ?_⟩
  · exact (((h.bel.trans (hWB.mono h.bel.size)).grown hg (by rw [Lib.bytesWorld_size]; omega) (fun k hk => by have := hown k hk; omega))).setCell (by show w.heap.size ≤ w.heap.size + 2; omega) _
  · rw [far _ (by omega), low _ (by omega)]
    exact h.box
  · exact h.nm.move ((far _ (by omega)).trans (low _ (by omega)))
  · have hn := BlkR.new wr s hs
    rw [← hcap] at hn
    have he : Elems (Lib.bytesWorld wr 5 s) ps ls := h.els.move (fun k cs fr hk => hWB.block k (Array.getElem?_eq_some_iff.1 hk).1)
    refine (he.snoc hn).move (fun k cs fr hk => ?_)
    have h2 : k ≠ w.heap.size + 2 := by
      rintro rfl
      have := (hWB.block (w.heap.size + 2) (by omega)).trans h.cell
      rw [hk] at this
      injection this with this
      injection this with _ this
      exact absurd this (by decide)
    exact (far k h2).trans (R_keep_typed hRB hg hk (by decide))
  · rw [World.size_setCell]
    have := hg.size
    rw [Lib.bytesWorld_size] at this
    omega

theorem info69 : (Try.prog.info? 69).map (fun i => (i.zero, i.size, i.bytes)) = some (some (.slice none 0 0), 1, 24) := by kernel_rfl
/-- What impl.made answers. -/
def MkR (w : World) (name : ByteArray) (l : List ByteArray) (body : Option ByteArray) (e : Ending) (w' : World) : Prop :=
  ∃ cp nb nc v1 vb ps, e = .returned (.pointer (some ⟨cp, 0, none⟩)) ∧ w.heap.size ≤ cp ∧ cp < w'.heap.size ∧ Below w.heap.size w w' ∧ CmdB w' (w.heap.size + 3) cp nb nc v1 vb ps name l body
set_option maxHeartbeats 2000000 in
set_option maxRecDepth 100000 in
theorem made_any (name body : ByteArray) (hb : Bool) (A : Option Addr) (c : Nat) (l : List ByteArray) (w : World) (hC : Kd.C Kd.string w A l.length l) (hl : l.length ≤ 8) (hn : name.size ≤ 1000000) (hls : ∀ s ∈ l, s.size ≤ 1000000) (hbz : body.size ≤ 1000000) :
    Calls Try.prog 46 #[.agg #[.string name, .slice A l.length c, .string body, .bool hb]] w fun e w' => MkR w name l (if hb then some body else none) e w' := by
  have hbs := fun w s => print_bytes (P := Try.prog) 9 69 5 Try.underlying9 Try.underlying69 Try.underlying5 s w
  have HC := Aside0.mk hC
  have HLS := Aside0.mk hls
  have HN := Aside0.mk hn
  have hl8 : (l.length : Int) ≤ 8 := by omega
  clear hC hls hn
  obtain ⟨W1, hW1⟩ : ∃ W1, W1 = w.alloc (.cells #[.string name, .slice A l.length c, .string body, .bool hb] 35) := ⟨_, rfl⟩
  obtain ⟨cn, hcn⟩ : ∃ cn, cn = grownCap W1 name.size 0 5 := ⟨_, rfl⟩
  obtain ⟨W2, hW2⟩ : ∃ W2, W2 = (Lib.bytesWorld W1 5 name).alloc (.cells #[.slice (some ⟨w.heap.size + 1, 0, none⟩) name.size cn, .slice none 0 0, .slice none 0 0] 111) := ⟨_, rfl⟩
  have hz1 : W1.heap.size = w.heap.size + 1 := by rw [hW1]; simp
  have hz2 : (Lib.bytesWorld W1 5 name).heap.size = w.heap.size + 2 := by rw [Lib.bytesWorld_size, hz1]
  have hz3 : W2.heap.size = w.heap.size + 3 := by rw [hW2, World.size_alloc, hz2]
  have hbox : W2.heap[w.heap.size]? = some (.cells #[.string name, .slice A l.length c, .string body, .bool hb] 35 (0, 0)) := by
    rw [hW2, Below.heap_alloc _ _ _ (by omega), Lib.bytesWorld_at_old _ _ _ _ (by omega), hW1]
    exact heap_alloc_new w _
  have PRE0 := Aside0.mk (show Pre w W2 cn (.slice none 0 0) [] name [] #[.string name, .slice A l.length c, .string body, .bool hb] from ⟨by
      rw [hW2]
      exact below_alloc (bytes_below (by rw [hW1]; exact below_alloc (Below.refl _ _) _) (by omega) 5 name) _, hbox, by
      rw [hW2, ← hz2]
      exact heap_alloc_new _ _, by
      have := BlkR.new W1 name (by have := HN.out; omega)
      rw [hz1, ← hcn] at this
      refine this.move ?_
      rw [hW2]
      exact Below.heap_alloc _ _ _ (by omega), Kd.R_nil _ _ _ _ _, ⟨rfl, fun j p s hp _ => by simp at hp⟩, by omega⟩)
  have hc1 := blk_cell hbox 1
  have HZ3 := Aside0.mk hz3
  clear hbox hz1 hz3
  subst hW2
  subst hcn
  subst hW1
  go_enter Try.func46, Try.ntmps46
  go_wp2_with fail
  go_loopg [5, 14] l.length (fun gk v5 v14 wr => ∃ (j : Nat) (vs v1 : Value) (ps : List (Nat × Nat × Nat)), v5 = vs ∧ v14 = .int .i64 j ∧ Aside0 (j ≤ l.length ∧ gk = l.length - j) ∧ Aside0 (Pre w wr (grownCap (w.alloc (.cells #[.string name, .slice A l.length c, .string body, .bool hb] 35)) name.size 0 5) v1 ps name (l.take j) #[.string name, .slice A l.length c, .string body, .bool hb]))
  case atStart => exact ⟨0, _, _, _, rfl, rfl, ⟨by omega⟩, ⟨by simpa using PRE0.out⟩⟩
  case round =>
    clear PRE0 hc1
    obtain ⟨j, vs, v1, ps, rfl, rfl, HJ, HP⟩ := hrel
    by_cases hj : j < l.length
    · obtain ⟨x, hx⟩ : ∃ x, l[j]? = some x := ⟨_, List.getElem?_eq_getElem hj⟩
      obtain ⟨ad, hA, hcx⟩ := at_enc HC.out hx
      have hcx2 := pw_cell_below HP.out.bel hcx
      subst hA
      have HX := Aside0.mk hx
      have hxz : x.size ≤ 1000000 := HLS.out x (List.mem_of_getElem? hx)
      obtain ⟨A1, c1, rfl⟩ := Kd.R_slice HP.out.row
      have hc1 := blk_cell HP.out.cell 1
      have hsz := HP.out.size
      have hWB : Below wr.heap.size wr (Lib.bytesWorld wr 5 x) := bytes_below (Below.refl _ _) (Nat.le_refl _) 5 x
      have HRB := Aside0.mk (Kd.R_below HP.out.row hWB)
      have HC2 := Aside0.mk (blk_below HP.out.cell hWB)
      have hpl : ps.length = (l.take j).length := HP.out.els.1
      have hlen : (ps.length + 1) * 24 ≤ 140737488355328 := by rw [hpl, List.length_take]; omega
      have hszb : w.heap.size + 3 ≤ (Lib.bytesWorld wr 5 x).heap.size := by rw [Lib.bytesWorld_size]; omega
      have hOWN := Aside0.mk (fun k hk => (Kd.R_bound HP.out.row).1 k hk |>.1)
      clear hx hcx hWB hpl
      go_wp2_with (at_builtin; refine Kd.R_append (w0 := Lib.bytesWorld wr 5 x) ksl (w.heap.size + 3) rfl (.tmp 22) (.tmp 25) 109 69 _ 24 rfl Try.underlying109 info69 rfl (by show 0 < 1; decide) (by decide) (.slice A1 ps.length c1) ps (wr.heap.size, x.size, grownCap wr x.size 0 5) [.slice (some ⟨wr.heap.size, 0, none⟩) x.size (grownCap wr x.size 0 5)] (fun q => w.heap.size + 3 ≤ q) (fun _ => False) (by simp [Act.eval]) (by simp [Act.eval]) rfl (fun _ h => h.elim) (fun q hq => Nat.le_trans hszb hq) HRB.out (Below.refl _ _) hszb hlen ?_; intro v1 w3 hr1 hb1 hg1 hat1; obtain ⟨A3, n3, c3, rfl⟩ : ∃ A3 n3 c3, v1 = .slice A3 n3 c3 := (by obtain ⟨A, c, h⟩ := Kd.R_slice hr1; exact ⟨A, _, c, h⟩); have HR2 := Lib.hid hr1; have HG2 := Lib.hid hg1; have hbx3 := blk_grown HC2.out hg1 (fun he => by have := hOWN.out _ he.symm; omega); have hf3 := blk_frozen hbx3 1; have hc3 := blk_cell hbx3 1; clear hr1 hb1 hg1 hat1 hbx3)
      go_roundg (l.length - (j + 1))
      case measure => have := HJ.out.2; omega
      case rel =>
        refine ⟨j + 1, .string x, .slice A3 n3 c3, ps ++ [(wr.heap.size, x.size, grownCap wr x.size 0 5)], rfl, by go_num, ⟨by omega⟩, ⟨?_⟩⟩
        rw [List.take_add_one, HX.out]
        exact HP.out.put (by omega) rfl HR2.out HG2.out
    · have hje : j = l.length := by have := HJ.out.1; omega
      subst hje
      rw [List.take_length] at HP
      obtain ⟨A1, c1, rfl⟩ := Kd.R_slice HP.out.row
      have hc3 := blk_cell HP.out.box 3
      have hc2 := blk_cell HP.out.box 2
      have hszr := HP.out.size
      cases hb
      · go_wp2_with fail
        go_ret
        exact ⟨_, _, _, _, _, _, rfl, by omega, by omega, HP.out.bel, ⟨HP.out.cell, HP.out.nm, HP.out.row, HP.out.els, fun _ => rfl, fun s h => by simp at h⟩⟩
      · have hWB : Below wr.heap.size wr (Lib.bytesWorld wr 5 body) := bytes_below (Below.refl _ _) (Nat.le_refl _) 5 body
        have HC2 := Aside0.mk (blk_below HP.out.cell hWB)
        have hf2 := blk_frozen HC2.out 2
        have hcc2 := blk_cell HC2.out 2
        clear hWB
        go_wp2_with fail
        go_ret
        have hWB : Below wr.heap.size wr (Lib.bytesWorld wr 5 body) := bytes_below (Below.refl _ _) (Nat.le_refl _) 5 body
        have far : ∀ k, k ≠ w.heap.size + 2 → ∀ v, ((Lib.bytesWorld wr 5 body).setCell ⟨w.heap.size + 2, 2, none⟩ v).heap[k]? = (Lib.bytesWorld wr 5 body).heap[k]? := fun k hk v => Below.heap_setCell _ _ _ k hk
        refine ⟨_, _, _, _, _, _, rfl, by omega, by rw [World.size_setCell, Lib.bytesWorld_size]; omega, (HP.out.bel.trans (hWB.mono HP.out.bel.size)).setCell (by show w.heap.size ≤ w.heap.size + 2; omega) _,
          ⟨blk_put HC2.out 2 _ rfl, HP.out.nm.move ((far _ (by omega) _).trans (hWB.block _ (by omega))), Kd.R_far (Kd.R_below HP.out.row hWB) (fun k hk => by show k ≠ w.heap.size + 2; omega) _, HP.out.els.move (fun k cs fr hk => ?_), fun h => by simp at h, fun s hs => ?_⟩⟩
        · have h2 : k ≠ w.heap.size + 2 := by
            rintro rfl
            have := HP.out.cell
            rw [hk] at this
            injection this with this
            injection this with _ this
            exact absurd this (by decide)
          exact (far k h2 _).trans (hWB.block _ (Array.getElem?_eq_some_iff.1 hk).1)
        · have : body = s := by simpa using hs
          subst this
          exact ⟨_, _, rfl, (BlkR.new wr body (by omega)).move (far _ (by omega) _)⟩
end Go.Proofs.Ytnbhledkdkchlaa
