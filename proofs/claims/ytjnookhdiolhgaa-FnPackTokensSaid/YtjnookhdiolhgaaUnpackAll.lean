/- impl.UnpackAll. -/
import Derived.Test.YtjnookhdiolhgaaUp
import Derived.Test.YtjnookhdiolhgaaRd
import Derived.Deep.LoopGhost
import Derived.Deep.RegionLaw
namespace Go.Proofs.Ytjnookhdiolhgaa
set_option linter.unusedVariables false
set_option linter.unusedSimpArgs false
open Go.RowKit Go.Proofs.YtjnookhdiolhgaaW.PrintWords
open PAll (S26 k26)

/-- The bytes are the values, one behind the other. -/
def Parses (f : Nat) : List Int → List S26 → Prop
  | xs, [] => xs = []
  | xs, x :: l => xs ≠ [] ∧ ∃ r, parse f 0 xs = .ok x r ∧ Parses f r l

def c24o : Obj := .cells #[.slice none 0 0] 24
/-- UnpackAll's world behind its variables. -/
def AW (w : World) (s : ByteArray) : World := Lib.bytesWorld (((w.alloc c24o).alloc i0o).alloc u0o) 5 s
theorem AW_heap (w : World) (s : ByteArray) (g : Nat) (hg : g < w.heap.size + 3) : (AW w s).heap[g]? = (((w.alloc c24o).alloc i0o).alloc u0o).heap[g]? :=
  (bytes_below (Below.refl _ (((w.alloc c24o).alloc i0o).alloc u0o)) (Nat.le_refl _) 5 s).block g (by simp; omega)
theorem AW_boxes (w : World) (s : ByteArray) : (AW w s).heap[w.heap.size]? = some c24o ∧ (AW w s).heap[w.heap.size + 1]? = some i0o ∧ (AW w s).heap[w.heap.size + 1 + 1]? = some u0o := by
  refine ⟨?_, ?_, ?_⟩
  · rw [AW_heap w s _ (by omega), Below.heap_alloc _ _ _ (by simp; omega), Below.heap_alloc _ _ _ (by simp)]
    exact heap_alloc_new w _
  · rw [AW_heap w s _ (by omega), Below.heap_alloc _ _ _ (by simp)]
    have h := heap_alloc_new (w.alloc c24o) i0o
    rw [World.size_alloc] at h
    exact h
  · rw [AW_heap w s _ (by omega)]
    have h := heap_alloc_new ((w.alloc c24o).alloc i0o) u0o
    rw [World.size_alloc, World.size_alloc] at h
    exact h
theorem AW_below (w : World) (s : ByteArray) : Below w.heap.size w (AW w s) := bytes_below (below_alloc (below_alloc (below_alloc (Below.refl _ _) _) _) _) (by simp; omega) 5 s
theorem AW_size (w : World) (s : ByteArray) : w.heap.size + 3 < (AW w s).heap.size := by
  unfold AW
  rw [Lib.bytesWorld_size]
  simp
theorem AW_reset (w : World) (s : ByteArray) (hs : s.size ≤ 2147483647) : ∃ cap, (((w.alloc c24o).alloc i0o).alloc u0o) = (((w.alloc c24o).alloc i0o).alloc u0o) ∧ cap = grownCap (((w.alloc c24o).alloc i0o).alloc u0o) s.size 0 5 ∧
    Calls Try.prog 60 #[.pointer (some ⟨w.heap.size + 1 + 1, 0, none⟩), .slice (some ⟨w.heap.size + 1 + 1 + 1, 0, none⟩) s.size cap] (AW w s) fun e w' => e = .returned (.tuple #[]) ∧
      UB w' (w.heap.size + 1 + 1) (some ⟨w.heap.size + 1 + 1 + 1, 0, none⟩) cap (bytesOf s) 0 0 0 0 .nilIface 0 ∧ (AW w s).grownBy w' (some (w.heap.size + 1 + 1)) := by
  refine ⟨_, rfl, rfl, ?_⟩
  have hr := bytes_reads (((w.alloc c24o).alloc i0o).alloc u0o) 5 s (by omega)
  rw [World.size_alloc, World.size_alloc, World.size_alloc, ← bytesOf_length s] at hr
  have hb := (AW_boxes w s).2.2
  have h := reset_any (xs := bytesOf s) (cap := grownCap (((w.alloc c24o).alloc i0o).alloc u0o) s.size 0 5) (AW w s) hb hr (by rw [bytesOf_length]; exact grownCap_ge _ _ _ _) (fun ad e => by injection e with e; subst e; show w.heap.size + 1 + 1 + 1 ≠ w.heap.size + 1 + 1; omega)
    (by rw [bytesOf_length]; exact hs) (bytesOf_bytes s)
  rw [bytesOf_length] at h
  exact h

/-- What the loop holds. -/
structure UA (w wr : World) (cap : Nat) (xs : List Int) (l : List S26) (v : Value) (off : Nat) (t s lo c : Int) : Prop where
  bel : Below w.heap.size w wr
  b0 : wr.heap[w.heap.size]? = some (.cells #[v] 24 (0, 0))
  b1 : wr.heap[w.heap.size + 1]? = some (.cells #[.int .i64 0] 3 (0, 0))
  un : UB wr (w.heap.size + 1 + 1) (some ⟨w.heap.size + 1 + 1 + 1, 0, none⟩) cap xs off t s lo .nilIface c
  row : k26.R 26 wr (w.heap.size + 4) (fun q => w.heap.size + 4 ≤ q) v l
  oo : off ≤ xs.length
  ll : l.length ≤ off
  size : w.heap.size + 4 ≤ wr.heap.size
theorem UA.lt {w wr : World} {cap : Nat} {xs : List Int} {l : List S26} {v : Value} {off : Nat} {t s lo c : Int} (h : UA w wr cap xs l v off t s lo c) : w.heap.size + 4 ≤ wr.heap.size := h.size
theorem UA.drewN {w wr : World} {cap : Nat} {xs : List Int} {l : List S26} {v : Value} {off : Nat} {t s lo c : Int} (h : UA w wr cap xs l v off t s lo c) (n : Nat) : UA w (wr.drewN n) cap xs l v off t s lo c :=
  ⟨pw_below_drewN h.bel n, h.b0, h.b1, h.un.drewN n, Kd.R_drewN h.row n, h.oo, h.ll, h.size⟩
/-- The reader went on. -/
theorem UA.next {w wr w2 : World} {cap : Nat} {xs : List Int} {l : List S26} {v : Value} {off off2 : Nat} {t s lo c t2 s2 lo2 c2 : Int} (h : UA w wr cap xs l v off t s lo c) (hg : wr.grownBy w2 (some (w.heap.size + 1 + 1)))
    (hu : UB w2 (w.heap.size + 1 + 1) (some ⟨w.heap.size + 1 + 1 + 1, 0, none⟩) cap xs off2 t2 s2 lo2 .nilIface c2) (hoo : off2 ≤ xs.length) (hll : l.length ≤ off2) : UA w w2 cap xs l v off2 t2 s2 lo2 c2 :=
  ⟨h.bel.grown hg h.bel.size (by rintro k hk; injection hk with hk; omega), blk_grown h.b0 hg (by intro he; injection he with he; omega), blk_grown h.b1 hg (by intro he; injection he with he; omega), hu, Kd.R_grown h.row hg (fun q hq he => by injection he with he; omega), hoo, hll, Nat.le_trans h.size hg.size⟩
/-- A new box, and its fill. -/
theorem UA.box {w wr : World} {cap : Nat} {xs : List Int} {l : List S26} {v : Value} {off : Nat} {t s lo c : Int} (h : UA w wr cap xs l v off t s lo c) (a b cc d e f k : Value) :
    UA w (set7 (wr.alloc z26o) wr.heap.size a b cc d e f k) cap xs l v off t s lo c ∧ (set7 (wr.alloc z26o) wr.heap.size a b cc d e f k).heap[wr.heap.size]? = some (.cells #[a, b, cc, d, e, f, k] 26 (0, 0)) ∧ Below wr.heap.size wr (set7 (wr.alloc z26o) wr.heap.size a b cc d e f k) := by
  have hb : Below wr.heap.size wr (set7 (wr.alloc z26o) wr.heap.size a b cc d e f k) := below7 (below_alloc (Below.refl _ _) _) (Nat.le_refl _) _ _ _ _ _ _ _
  have hs := h.size
  refine ⟨⟨h.bel.trans (hb.mono h.bel.size), (hb.block _ (by omega)).trans h.b0, (hb.block _ (by omega)).trans h.b1, h.un.move hb, Kd.R_below h.row hb, h.oo, h.ll, Nat.le_trans hs hb.size⟩, ?_, hb⟩
  exact fill_box (heap_alloc_new wr z26o)
theorem wp_gen {P : Program} {c : Code} {Q : Exit → Act → World → Prop} {a : Act} {W : World} (F : World → Prop) (hF : F W) (h : ∀ wz, F wz → c.wp P Q a wz) : c.wp P Q a W := h W hF
theorem ua_end {w wr : World} {cap : Nat} {xs : List Int} {l : List S26} {v : Value} {off : Nat} {t s lo c : Int} (h : UA w wr cap xs l v off t s lo c) :
    ((wr.setCell ⟨w.heap.size, 0, none⟩ v).setCell ⟨w.heap.size + 1, 0, none⟩ (.int .i64 0)).heap[w.heap.size]? = some (.cells #[v] 24 (0, 0)) ∧ ((wr.setCell ⟨w.heap.size, 0, none⟩ v).setCell ⟨w.heap.size + 1, 0, none⟩ (.int .i64 0)).heap[w.heap.size + 1]? = some (.cells #[.int .i64 0] 3 (0, 0)) ∧
    Below w.heap.size w ((wr.setCell ⟨w.heap.size, 0, none⟩ v).setCell ⟨w.heap.size + 1, 0, none⟩ (.int .i64 0)) ∧ k26.R 26 ((wr.setCell ⟨w.heap.size, 0, none⟩ v).setCell ⟨w.heap.size + 1, 0, none⟩ (.int .i64 0)) w.heap.size (fun q => w.heap.size ≤ q) v l := by
  refine ⟨blk_far (p := ⟨w.heap.size + 1, 0, none⟩) (blk_put h.b0 0 v rfl) (by show w.heap.size ≠ w.heap.size + 1; omega) _, blk_put (blk_far (p := ⟨w.heap.size, 0, none⟩) h.b1 (by show w.heap.size + 1 ≠ w.heap.size; omega) _) 0 _ rfl, below_set (below_set h.bel (Nat.le_refl _)) (by omega), ?_⟩
  exact Kd.R_lower (Kd.R_mono (Kd.R_far (Kd.R_far h.row (p := ⟨w.heap.size, 0, none⟩) (fun q hq => by show q ≠ w.heap.size; omega) _) (p := ⟨w.heap.size + 1, 0, none⟩) (fun q hq => by show q ≠ w.heap.size + 1; omega) _) (fun q (hq : w.heap.size + 4 ≤ q) => by show w.heap.size ≤ q; omega)) (by omega)
theorem info26' : (Try.prog.info? 26).map (fun i => (i.zero, i.size, i.bytes)) = some (some (.agg #[.int .i64 0, .bool false, .int .i64 0, .int .u64 0, .string ⟨#[]⟩, .slice none 0 0, .slice none 0 0]), 7, 96) := by kernel_rfl
theorem res34 (tmps : Array Value) (w : World) (g g1 : Nat) (v : Value) (x : Int) (h2 : tmps.getD 2 undef = .pointer (some ⟨g, 0, none⟩)) (h3 : tmps.getD 3 undef = .pointer (some ⟨g1, 0, none⟩))
    (hg : w.heap[g]? = some (.cells #[v] 24 (0, 0))) (hx : w.heap[g1]? = some (.cells #[.int .i64 x] 3 (0, 0))) (hv : ∃ A n c, v = .slice A n c) :
    (results Try.f34 tmps).run Try.prog w = .ok (.tuple #[v, .int .i64 x]) w := by
  obtain ⟨A, n, c, rfl⟩ := hv
  have h2' : tmps[2]?.getD undef = .pointer (some ⟨g, 0, none⟩) := by simpa using h2
  have h3' : tmps[3]?.getD undef = .pointer (some ⟨g1, 0, none⟩) := by simpa using h3
  have c1 : w.cell? ⟨g1, 0, none⟩ = some (.int .i64 x) := blk_cell hx 0
  have c2 : w.cell? ⟨g, 0, none⟩ = some (.slice A n c) := blk_cell hg 0
  simp [results, Try.results34, h2', h3', asAddr, go_sem, c1, c2]

/-- What UnpackAll answers where the bytes are values. -/
def UAR (w : World) (l : List S26) (e : Ending) (w' : World) : Prop :=
  Below w.heap.size w w' ∧ ∃ v, e = .returned (.tuple #[v, .int .i64 0]) ∧ k26.R 26 w' w.heap.size (fun k => w.heap.size ≤ k) v l

def zero26 : S26 := ⟨0, false, 0, 0, ⟨#[]⟩, [], []⟩
theorem parse_lt {f : Nat} {xs r : List Int} {off off' : Nat} {x : S26} (hb : ∀ y ∈ xs, 0 ≤ y ∧ y ≤ 255) (hp : parse f 0 (xs.drop off) = .ok x r) (hdr : xs.drop off' = r) (hlt : off < xs.length) : off < off' := by
  have h := (parse_len f 0 _ _ _ (fun y hy => hb y (List.mem_of_mem_drop hy)) hp).1
  rw [← hdr, List.length_drop, List.length_drop] at h
  omega
/-- Ahead of the append: the value read lies in a box. -/
structure Mid (w wr w3 : World) (cap : Nat) (xs : List Int) (done : List S26) (A : Option Addr) (cp : Nat) (x : S26) (A5 : Option Addr) (n5 d5 : Nat) (A6 : Option Addr) (n6 d6 : Nat) (off : Nat) (t s lo c : Int) (wz : World) : Prop where
  ua : UA w wz cap xs done (.slice A done.length cp) off t s lo c
  lt : done.length < off
  box : wz.heap[w3.heap.size]? = some (.cells #[.int .i64 x.f0, .bool x.f1, .int .i64 x.f2, .int .u64 x.f3, .string x.f4, .slice A5 n5 d5, .slice A6 n6 d6] 26 (0, 0))
  far : w.heap.size + 4 ≤ w3.heap.size
  low : w.heap.size + 4 ≤ wr.heap.size
  r5 : Kd.string.R 9 wz (w.heap.size + 4) (fun q => wr.heap.size ≤ q) (.slice A5 n5 d5) x.f5
  r6 : k26.R 26 wz (w.heap.size + 4) (fun q => wr.heap.size ≤ q) (.slice A6 n6 d6) x.f6
  own : ∀ q, (Value.slice A done.length cp).ownBlock = some q → q < wr.heap.size
section
variable {w wr w3 : World} {cap : Nat} {xs : List Int} {done : List S26} {A : Option Addr} {cp : Nat} {x : S26} {A5 : Option Addr} {n5 d5 : Nat} {A6 : Option Addr} {n6 d6 : Nat} {off off' : Nat} {t s lo c t' s' lo' c' : Int} {wz : World} {r : List Int} {nd : Nat}
theorem mid_start (h : UA w (wr.drewN nd) cap xs done (.slice A done.length cp) off t s lo c) (hlt : off < off')
    (hr5 : Kd.string.R 9 w3 (wr.drewN nd).heap.size (fun q => (wr.drewN nd).heap.size ≤ q) (.slice A5 n5 d5) x.f5) (hr6 : k26.R 26 w3 (wr.drewN nd).heap.size (fun q => (wr.drewN nd).heap.size ≤ q) (.slice A6 n6 d6) x.f6)
    (hux : UB w3 (w.heap.size + 1 + 1) (some ⟨w.heap.size + 1 + 1 + 1, 0, none⟩) cap xs off' t' s' lo' .nilIface c') (hox : off' ≤ xs.length) (hg : (wr.drewN nd).grownBy w3 (some (w.heap.size + 1 + 1))) :
    Mid w wr w3 cap xs done A cp x A5 n5 d5 A6 n6 d6 off' t' s' lo' c' (w3.alloc (.cells #[.int .i64 x.f0, .bool x.f1, .int .i64 x.f2, .int .u64 x.f3, .string x.f4, .slice A5 n5 d5, .slice A6 n6 d6] 26)) := by
  have hs := h.size
  have hs1 : (wr.drewN nd).heap.size = wr.heap.size := rfl
  have hn := h.next hg hux hox (by have := h.ll; omega)
  have hb := below_alloc (Below.refl w3.heap.size w3) (.cells #[.int .i64 x.f0, .bool x.f1, .int .i64 x.f2, .int .u64 x.f3, .string x.f4, .slice A5 n5 d5, .slice A6 n6 d6] 26)
  have hs3 := hg.size
  refine ⟨⟨hn.bel.trans (hb.mono hn.bel.size), (hb.block _ (blk_lt hn.b0)).trans hn.b0, (hb.block _ (blk_lt hn.b1)).trans hn.b1, hn.un.move hb, Kd.R_below hn.row hb, hn.oo, hn.ll, Nat.le_trans hn.size hb.size⟩, ?_, heap_alloc_new w3 _, by omega, by omega, ?_, ?_, fun q hq => ?_⟩
  · have := h.ll; omega
  · exact Kd.R_below (Kd.R_lower hr5 (by omega)) hb
  · exact Kd.R_below (Kd.R_lower hr6 (by omega)) hb
  · have := Kd.R_lt h.row q hq; omega
theorem Mid.bound (h : Mid w wr w3 cap xs done A cp x A5 n5 d5 A6 n6 d6 off t s lo c wz) : (done.length + 1) * 96 ≤ 140737488355328 := by
  have h1 := h.lt
  have h2 := h.ua.oo
  have h3 := h.ua.un.len
  omega
theorem mid_elem {wk : World} {v1 : Value} {base : Nat} (hr : k26.R 26 wk base (fun q => base ≤ q) v1 (done ++ [zero26])) : ∃ g c1, v1 = .slice (some ⟨g, 0, none⟩) (done.length + 1) c1 ∧ base ≤ g ∧ g < wk.heap.size ∧
    (wk.cell? ⟨g, done.length * 7, none⟩ = some (.int .i64 0) ∧ wk.cell? ⟨g, done.length * 7 + 1, none⟩ = some (.bool false) ∧ wk.cell? ⟨g, done.length * 7 + 2, none⟩ = some (.int .i64 0) ∧ wk.cell? ⟨g, done.length * 7 + 3, none⟩ = some (.int .u64 0) ∧ wk.cell? ⟨g, done.length * 7 + 4, none⟩ = some (.string ⟨#[]⟩) ∧ (∃ v5, wk.cell? ⟨g, done.length * 7 + 5, none⟩ = some v5) ∧ ∃ v6, wk.cell? ⟨g, done.length * 7 + 6, none⟩ = some v6) ∧
    ∀ j, wk.frozen? ⟨g, done.length * 7 + j, none⟩ = false := by
  have hpos : 0 < (done ++ [zero26]).length := by simp
  obtain ⟨g, c1, hv, h1, h2, _, _⟩ := Kd.R_form hr hpos
  rw [show (done ++ [zero26]).length = done.length + 1 by simp] at hv
  subst hv
  obtain ⟨c, hcl, hM, hcc, hfz⟩ := Kd.R_elem hr zero26 done.length (by omega) (by omega)
  rw [show (done ++ [zero26]).getD (Int.toNat (done.length : Int)) zero26 = zero26 by simp [List.getD_eq_getElem?_getD]] at hM
  obtain ⟨v5, v6, rfl, _, _⟩ := PAll.k26_openM hM
  rw [Int.toNat_natCast] at hcc hfz
  exact ⟨g, c1, rfl, h1, h2, ⟨hcc 0 _ rfl, hcc 1 _ rfl, hcc 2 _ rfl, hcc 3 _ rfl, hcc 4 _ rfl, ⟨_, hcc 5 _ rfl⟩, ⟨_, hcc 6 _ rfl⟩⟩, hfz⟩
end
def set7at (w : World) (g o : Nat) (a b c d e f k : Value) : World := ((((((w.setCell ⟨g, o, none⟩ a).setCell ⟨g, o + 1, none⟩ b).setCell ⟨g, o + 2, none⟩ c).setCell ⟨g, o + 3, none⟩ d).setCell ⟨g, o + 4, none⟩ e).setCell ⟨g, o + 5, none⟩ f).setCell ⟨g, o + 6, none⟩ k
theorem set7at_eq (w : World) (g o : Nat) (a b c d e f k : Value) : set7at w g o a b c d e f k = w.setCells g o [a, b, c, d, e, f, k] := by
  unfold set7at
  simp only [World.setCells, Nat.add_assoc]
theorem setCell_swap (w : World) (p q : Addr) (u v : Value) (h : p.block ≠ q.block) : (w.setCell p u).setCell q v = (w.setCell q v).setCell p u := by
  unfold World.setCell
  congr 1
  apply Array.ext_getElem?
  intro i
  simp only [Array.getElem?_modify]
  by_cases h1 : p.block = i <;> by_cases h2 : q.block = i
  · exact absurd (h1.trans h2.symm) h
  · simp [h1, h2]
  · simp [h1, h2]
  · simp [h1, h2]
theorem set7at_swap (w : World) (p : Addr) (v : Value) {g : Nat} (h : p.block ≠ g) (o : Nat) (a b c d e f k : Value) : set7at (w.setCell p v) g o a b c d e f k = (set7at w g o a b c d e f k).setCell p v := by
  have hs := fun (W : World) (j : Nat) (u : Value) => setCell_swap W p ⟨g, j, none⟩ v u h
  unfold set7at
  simp only [hs]
section
variable {w wr w3 : World} {cap : Nat} {xs : List Int} {done : List S26} {A : Option Addr} {cp : Nat} {x : S26} {A5 : Option Addr} {n5 d5 : Nat} {A6 : Option Addr} {n6 d6 : Nat} {off : Nat} {t s lo c : Int} {wz wk : World} {g c1 : Nat}
theorem mid_next (h : Mid w wr w3 cap xs done A cp x A5 n5 d5 A6 n6 d6 off t s lo c wz) (hr : k26.R 26 wk (w.heap.size + 4) (fun q => w.heap.size + 4 ≤ q) (.slice (some ⟨g, 0, none⟩) (done.length + 1) c1) (done ++ [zero26]))
    (hg : wz.drew.grownBy wk (Value.slice A done.length cp).ownBlock) (hat : (Value.slice (some ⟨g, 0, none⟩) (done.length + 1) c1).ownBlock = (Value.slice A done.length cp).ownBlock ∨ ∃ b, (Value.slice (some ⟨g, 0, none⟩) (done.length + 1) c1).ownBlock = some b ∧ wz.drew.heap.size ≤ b) :
    UA w ((set7at wk g (done.length * 7) (.int .i64 x.f0) (.bool x.f1) (.int .i64 x.f2) (.int .u64 x.f3) (.string x.f4) (.slice A5 n5 d5) (.slice A6 n6 d6)).setCell ⟨w.heap.size, 0, none⟩ (.slice (some ⟨g, 0, none⟩) (done.length + 1) c1)) cap xs (done ++ [x]) (.slice (some ⟨g, 0, none⟩) (done ++ [x]).length c1) off t s lo c := by
  have hsz : wz.drew.heap.size = wz.heap.size := rfl
  have hob : ∀ q, (Value.slice A done.length cp).ownBlock = some q → w.heap.size + 4 ≤ q := fun q hq => Kd.R_base h.ua.row q hq
  have hgb : w.heap.size + 4 ≤ g := Kd.R_base hr g (by simp [Value.ownBlock])
  have hgk : g < wk.heap.size := Kd.R_lt hr g (by simp [Value.ownBlock])
  have hgo : g < wr.heap.size ∨ wz.heap.size ≤ g := by
    rcases hat with hat | ⟨b, hb, hle⟩
    · exact .inl (h.own g (by rw [← hat]; simp [Value.ownBlock]))
    · simp [Value.ownBlock] at hb; subst hb; exact .inr hle
  -- the new value's rows
  have h5 : Kd.string.R 9 wk (w.heap.size + 4) (fun q => wr.heap.size ≤ q ∧ q < wz.heap.size) (.slice A5 n5 d5) x.f5 :=
    Kd.R_grown (Kd.R_drew (Kd.R_mono (Kd.R_bound h.r5) (fun q hq => ⟨hq.1, hq.2.2.1⟩))) hg (fun q hq he => by have := h.own q he.symm; omega)
  have h6 : k26.R 26 wk (w.heap.size + 4) (fun q => wr.heap.size ≤ q ∧ q < wz.heap.size) (.slice A6 n6 d6) x.f6 :=
    Kd.R_grown (Kd.R_drew (Kd.R_mono (Kd.R_bound h.r6) (fun q hq => ⟨hq.1, hq.2.2.1⟩))) hg (fun q hq he => by have := h.own q he.symm; omega)
  obtain ⟨cl, hcl, hM0, hcc, hfz⟩ := Kd.R_elem hr zero26 done.length (by omega) (by omega)
  have hcl7 : cl.length = 7 := hcl
  obtain ⟨hseg, hgs⟩ := Kd.R_seg (j := 0) (x' := x) (seg := [.int .i64 x.f0, .bool x.f1, .int .i64 x.f2, .int .u64 x.f3, .string x.f4, .slice A5 n5 d5, .slice A6 n6 d6]) (okp := fun q => wr.heap.size ≤ q ∧ q < wz.heap.size) hr done.length (by omega) (by omega) hcl hcc (by show 0 + 7 ≤ 7; omega)
    (by
      rw [show cl.take 0 ++ [.int .i64 x.f0, .bool x.f1, .int .i64 x.f2, .int .u64 x.f3, .string x.f4, .slice A5 n5 d5, .slice A6 n6 d6] ++ cl.drop (0 + [Value.int .i64 x.f0, .bool x.f1, .int .i64 x.f2, .int .u64 x.f3, .string x.f4, .slice A5 n5 d5, .slice A6 n6 d6].length) = [.int .i64 x.f0, .bool x.f1, .int .i64 x.f2, .int .u64 x.f3, .string x.f4, .slice A5 n5 d5, .slice A6 n6 d6] by
        rw [List.drop_of_length_le (by rw [hcl7]; simp)]; simp]
      exact PAll.k26_mkM wk _ _ x h5 h6)
    (fun q hq => ⟨by have := h.low; omega, by have := hq.1; have := hq.2; omega⟩)
  rw [Int.toNat_natCast] at hseg hgs
  have hset : (done ++ [zero26]).set done.length x = done ++ [x] := by simp
  rw [hset] at hseg
  rw [set7at_eq]
  have hoff : done.length * k26.sz + 0 = done.length * 7 := rfl
  rw [hoff] at hseg hgs
  generalize hW1 : wk.setCells g (done.length * 7) [.int .i64 x.f0, .bool x.f1, .int .i64 x.f2, .int .u64 x.f3, .string x.f4, .slice A5 n5 d5, .slice A6 n6 d6] = W1 at *
  have hlen : (done ++ [x]).length = done.length + 1 := by simp
  rw [hlen]
  have b0 := blk_grown (blk_grown (show wz.drew.heap[w.heap.size]? = _ from h.ua.b0) hg (fun he => by have := hob _ he.symm; omega)) hgs (fun he => by injection he with he; omega)
  have b1 := blk_grown (blk_grown (show wz.drew.heap[w.heap.size + 1]? = _ from h.ua.b1) hg (fun he => by have := hob _ he.symm; omega)) hgs (fun he => by injection he with he; omega)
  have hun := ((h.ua.un.drew.grown hg (fun he => by have := hob _ he.symm; omega) (fun ad ha he => by injection ha with ha; subst ha; have := hob _ he.symm; have : w.heap.size + 1 + 1 + 1 = w.heap.size + 3 := rfl; simp at *; omega)).grown hgs (fun he => by injection he with he; omega) (fun ad ha he => by injection ha with ha; subst ha; injection he with he; have h3 : w.heap.size + 1 + 1 + 1 = g := he; omega))
  have hbel : Below w.heap.size w W1 := ((below_drew h.ua.bel).grown hg (Nat.le_trans h.ua.bel.size (Nat.le_refl _)) (fun q hq => by have := hob q hq; omega)).grown hgs (by have := h.ua.bel.size; have := hg.size; omega) (by rintro q hq; injection hq with hq; omega)
  have hs1 := hgs.size
  have hs2 := hg.size
  have hs3 := h.ua.size
  refine ⟨below_set hbel (Nat.le_refl _), blk_put b0 0 _ rfl, blk_far (p := ⟨w.heap.size, 0, none⟩) b1 (by show w.heap.size + 1 ≠ w.heap.size; omega) _, ?_, ?_, h.ua.oo, by have := h.lt; rw [hlen]; omega, ?_⟩
  · exact hun.grown (row := some w.heap.size) (grown_set (World.grownBy.refl W1 _) 0 _) (fun he => by injection he with he; omega) (fun ad ha he => by injection ha with ha; subst ha; injection he with he; have h3 : w.heap.size + 1 + 1 + 1 = w.heap.size := he; omega)
  · exact Kd.R_far hseg (p := ⟨w.heap.size, 0, none⟩) (fun q hq => by show q ≠ w.heap.size; omega) _
  · show w.heap.size + 4 ≤ (W1.setCell _ _).heap.size
    simp only [World.setCell]
    have : w.heap.size + 4 ≤ W1.heap.size := by omega
    simpa [World.setCell] using this
end
set_option maxHeartbeats 12000000 in
set_option maxRecDepth 100000 in
theorem UnpackAll_any (f : Nat) (s : ByteArray) (l : List S26) (w : World) (hs : s.size ≤ 2147483647) (hw : Parses f (bytesOf s) l) :
    Calls Try.prog 34 #[.string s] w fun e w' => UAR w l e w' := by
  have hmf : ∀ (fn : Fn) (first cap : Array Value) (w : World), (Instr.makeFunc fn first cap).run Try.prog w = .ok (.func fn first cap) w := fun _ _ _ _ => rfl
  have hbs := fun w => print_bytes (P := Try.prog) 9 69 5 Try.underlying9 Try.underlying69 Try.underlying5 s w
  have HW := Lib.hid hw
  clear hw
  go_enter_defers Try.func34, Try.ntmps34
  go_wp2_with fail
  obtain ⟨cap, _, hcap, hrs⟩ := AW_reset w s hs
  subst hcap
  have hz := AW_size w s
  have HRS := Lib.hid hrs
  clear hrs
  refine HRS.out.mono ?_
  rintro e w1 ⟨rfl, hu, hg⟩
  obtain ⟨x0, x1, x2⟩ := AW_boxes w s
  have HUA := Lib.hid (show UA w w1 _ (bytesOf s) [] (.slice none 0 0) 0 0 0 0 0 from ⟨(AW_below w s).grown hg (AW_below w s).size (by rintro k hk; injection hk with hk; omega), blk_grown x0 hg (by intro he; injection he with he; omega), blk_grown x1 hg (by intro he; injection he with he; omega), hu, Kd.R_nil _ _ _ _ _, Nat.zero_le _, Nat.zero_le _, Nat.le_trans hz hg.size⟩)
  have HLEN : Hid ((bytesOf s).length ≤ 2147483647) := Lib.hid (by rw [bytesOf_length]; exact hs)
  clear hu hg x0 x1 x2 HRS hz
  generalize bytesOf s = xs at *
  generalize grownCap (((w.alloc c24o).alloc i0o).alloc u0o) s.size 0 5 = cap at *
  go_wp2_with fail
  go_loopg [] l.length (fun gk wr => ∃ (done rest : List S26) (A : Option Addr) (cp : Nat) (off : Nat) (t s' lo c : Int), Aside0 (l = done ++ rest ∧ gk = rest.length ∧ Parses f (xs.drop off) rest) ∧ Aside0 (UA w wr cap xs done (.slice A done.length cp) off t s' lo c))
  case atStart => exact ⟨[], l, none, 0, 0, 0, 0, 0, 0, ⟨rfl, rfl, HW.out⟩, ⟨HUA.out⟩⟩
  case round =>
    clear HUA HW
    obtain ⟨done, rest, A, cp, off, t, s', lo, c, HJ, HV⟩ := hrel
    have HL := Lib.hid (left_any _ HV.out.un HV.out.oo)
    have HO := Lib.hid HV.out.oo
    go_wp2_with fail
    refine HL.out.mono ?_
    rintro e w2 ⟨rfl, ⟨nd, rfl⟩⟩
    have HV2 := Lib.hid (HV.out.drewN nd)
    clear HL HV
    cases rest with
    | nil =>
      have hx : xs.drop off = [] := HJ.out.2.2
      have hl : xs.length ≤ off := by have := congrArg List.length hx; rw [List.length_drop] at this; simp at this; omega
      have h0 : (xs.length : Int) - off = 0 := by have := HO.out; omega
      have hd : l = done := by have := HJ.out.1; rw [this]; simp
      subst hd
      clear hx hl
      rw [h0]
      clear h0
      have q0 : (wr.drewN nd).cell? ⟨w.heap.size, 0, none⟩ = some (.slice A l.length cp) := blk_cell HV2.out.b0 0
      have q1 := blk_frozen HV2.out.b0 0
      have q2 : (wr.drewN nd).cell? ⟨w.heap.size + 1, 0, none⟩ = some (.int .i64 0) := blk_cell HV2.out.b1 0
      have q3 := blk_frozen HV2.out.b1 0
      have HE := Lib.hid (ua_end HV2.out)
      clear hmf hbs
      go_wp2_with fail
      refine leaves_cons (f := 75) (args := #[.pointer (some ⟨w.heap.size, 0, none⟩), .pointer (some ⟨w.heap.size + 1, 0, none⟩)]) (by simp) (by simp [go_sem]) ?_
      refine (idle75 _ _ _).mono ?_
      rintro e u' w'' ⟨rfl, rfl, rfl⟩
      exact ⟨_, res34 _ _ w.heap.size (w.heap.size + 1) (.slice A l.length cp) 0 rfl rfl HE.out.1 HE.out.2.1 ⟨_, _, _, rfl⟩, HE.out.2.2.1, _, rfl, HE.out.2.2.2⟩
    | cons x rest =>
      obtain ⟨hne, r, hp, hps⟩ := HJ.out.2.2
      have hlt : off < xs.length := by
        rcases Nat.lt_or_ge off xs.length with h | h
        · exact h
        · exact absurd (List.drop_of_length_le h) hne
      have h0 : decide (((xs.length : Int) - off) > 0) = true := decide_eq_true (by omega)
      have HU := Lib.hid (unpack_any f _ _ _ xs 0 off _ _ _ _ (wr.drewN nd) (by omega) (by omega) HV2.out.un HV2.out.oo (fun ad e => by injection e with e; subst e; have := HV2.out.size; show w.heap.size + 1 + 1 + 1 < _; omega) (by rw [hp]; exact fun h => by cases h))
      rw [hp] at HU
      have HPS := Lib.hid hps
      have HP := Lib.hid hp
      have HLT := Lib.hid hlt
      clear hp hps hne
      go_wp2_with fail
      refine HU.out.mono ?_
      rintro e w3 ⟨hg, v5, v6, off', t', s1', l', c', rfl, hr5, hr6, hux, hdr, hox⟩
      obtain ⟨A5, n5, d5, rfl⟩ : ∃ A5 n5 d5, v5 = .slice A5 n5 d5 := by obtain ⟨A, c, h⟩ := Kd.R_slice hr5; exact ⟨A, _, c, h⟩
      obtain ⟨A6, n6, d6, rfl⟩ : ∃ A6 n6 d6, v6 = .slice A6 n6 d6 := by obtain ⟨A, c, h⟩ := Kd.R_slice hr6; exact ⟨A, _, c, h⟩
      have HR := Lib.hid (And.intro hr5 (And.intro hr6 (And.intro hux (And.intro hdr (And.intro hox hg)))))
      clear hr5 hr6 hux hdr hox hg HU
      go_wp2_with fail
      refine wp_gen (F := Mid w wr w3 cap xs done A cp x A5 n5 d5 A6 n6 d6 off' t' s1' l' c') ?_ ?_
      · exact mid_start HV2.out (parse_lt HV2.out.un.byte HP.out HR.out.2.2.2.1 HLT.out) HR.out.1 HR.out.2.1 HR.out.2.2.1 HR.out.2.2.2.2.1 HR.out.2.2.2.2.2
      · intro wz HZ
        have HM := Lib.hid HZ
        have z0 := blk_cell HZ.ua.b0 0
        have z1 := blk_frozen HZ.ua.b0 0
        have hlt0 := blk_lt HZ.ua.b0
        have hltb := blk_lt HZ.box
        obtain ⟨b0, b1, b2, b3, b4, b5, b6⟩ := box7 HZ.box
        have HRD := Lib.hid HR.out.2.2.2.1
        clear HZ HR
        have HKM : k26.M wz.drew (w.heap.size + 4) (fun _ => False) zero26 [.int .i64 0, .bool false, .int .i64 0, .int .u64 0, .string ⟨#[]⟩, .slice none 0 0, .slice none 0 0] := PAll.k26_mkM _ _ _ zero26 (Kd.R_nil _ _ _ _ _) (Kd.R_nil _ _ _ _ _)
        have HKR := Kd.R_drew HM.out.ua.row
        have HKB : w.heap.size + 4 ≤ wz.drew.heap.size := HM.out.ua.size
        have HKF : ∀ q, wz.drew.heap.size ≤ q → w.heap.size + 4 ≤ q := fun q hq => Nat.le_trans HKB hq
        have HKL := HM.out.bound
        have HKK := Lib.hid (And.intro HKM (And.intro HKR (And.intro HKB (And.intro HKF HKL))))
        clear HKM HKR HKB HKF HKL
        refine wp_only ?_
        go_region_law (first
          | (refine Kd.R_append_step (W := wz.drew) (w0 := wz.drew) k26 (w.heap.size + 4) (by rfl) (.tmp 25) (.tmp 28) 24 26 _ 96 rfl Try.underlying24 info26' rfl (by show 0 < 7; decide) (by decide) (.slice A done.length cp) done zero26 [.int .i64 0, .bool false, .int .i64 0, .int .u64 0, .string ⟨#[]⟩, .slice none 0 0, .slice none 0 0] (fun q => w.heap.size + 4 ≤ q) (fun _ => False) (by rfl) (by rfl) HKK.out.1 (fun _ h => False.elim h) HKK.out.2.2.2.1 HKK.out.2.1 (Below.refl _ _) HKK.out.2.2.1 HKK.out.2.2.2.2 ?_
             intro v1 wk hr1 hb1 hg1 hat1
             obtain ⟨g, c1, rfl, hg2, hg3, ⟨k0, k1, k2, k3, k4, ⟨_, k5⟩, ⟨_, k6⟩⟩, hfz⟩ := mid_elem hr1
             have m0 : wk.frozen? ⟨g, done.length * 7, none⟩ = false := hfz 0
             have m1 := hfz 1
             have m2 := hfz 2
             have m3 := hfz 3
             have m4 := hfz 4
             have m5 := hfz 5
             have m6 := hfz 6
             have hb0' := blk_grown (show wz.drew.heap[w.heap.size]? = _ from HM.out.ua.b0) hg1 (fun he => by have := Kd.R_base HM.out.ua.row _ he.symm; omega)
             have y0 := blk_cell hb0' 0
             have y1 := blk_frozen hb0' 0
             have hix : (done.length : Int) < (done.length : Int) + 1 := by omega
             have hgn : ¬ (w.heap.size = g) := by omega
             have hgn2 : ¬ (g = w.heap.size) := by omega))
        all_goals
          have hN := mid_next HM.out hr1 hg1 hat1
          have hNB := hN
          rw [← set7at_swap wk ⟨w.heap.size, 0, none⟩ _ hgn] at hNB
          unfold set7at at hN hNB
          have HN := Lib.hid hN
          have HNB := Lib.hid hNB
          clear hN hNB hr1 hb1 hg1 hat1 hfz k0 k1 k2 k3 k4 k5 k6 m0 m1 m2 m3 m4 m5 m6 hb0' y0 y1 b0 b1 b2 b3 b4 b5 b6 z0 z1 HKK
          simp only [NormalOnly]
          go_wp2_with fail
          go_roundg rest.length
          case measure => have := HJ.out.2.1; simp at this; omega
          case rel =>
            refine ⟨done ++ [x], rest, some ⟨g, 0, none⟩, c1, off', t', s1', l', c', ⟨by rw [HJ.out.1]; simp, rfl, by rw [HRD.out]; exact HPS.out⟩, ⟨?_⟩⟩
            first | (with_reducible exact HN.out) | (with_reducible exact HNB.out)
end Go.Proofs.Ytjnookhdiolhgaa
