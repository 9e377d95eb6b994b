/- The packer's headers, texts and bytes: each appends what it should to the buffer. -/
import Derived.Test.YtjnookhdiolhgaaPk
import Derived.Deep.DeepCutAuto
import Derived.Deep.CutBlock
namespace Go.Proofs.Ytjnookhdiolhgaa
open Go.RowKit Go.Proofs.YtjnookhdiolhgaaW.PrintWords
open PAll (info5)

theorem make5 (w : World) : (Instr.makeSlice 69 (.int .i64 0) (.int .i64 5)).run Try.prog w =
    .ok (.slice (some ⟨w.heap.size, 0, none⟩) 0 5) (w.alloc (.cells #[.int .u8 0, .int .u8 0, .int .u8 0, .int .u8 0, .int .u8 0] 5)) := by kernel_rfl

/-- A length's header. -/
def encHead (s l n : Int) : List Int :=
  if n < 16 then [s + n]
  else if n < 256 then [l, n]
  else if n < 65536 then [l + 1, n / 256, n % 256]
  else [l + 2, n / 16777216, n / 65536 % 256, n / 256 % 256, n % 256]

set_option maxHeartbeats 1000000 in
set_option maxRecDepth 100000 in
theorem lh1 {B bp : Nat} {xs : List Int} (n : Int) (s l : Int) (w : World) (h : PB w B bp xs) (hB : B ≤ w.heap.size) (hl : xs.length ≤ 1099511627776) (hs : 0 ≤ s ∧ s ≤ 160) (h0 : 0 ≤ n) (hn : n < 16) :
    Calls Try.prog 106 #[.pointer (some ⟨bp, 0, none⟩), .int .i64 n, .int .u8 s, .int .u8 l] w fun e w' => e = .returned (.tuple #[]) ∧ PB w' B bp (xs ++ [s + n]) ∧ Fr B bp w w' := by
  obtain ⟨v, hb, ho⟩ := h
  obtain ⟨hs0, hs1⟩ := hs
  have hmk := make5
  have hlt := blk_lt hb
  have hc : w.cell? ⟨bp, 0, none⟩ = some v := blk_cell hb 0
  have hbel : Below w.heap.size w ((w.alloc (.cells #[.int .u8 (s + n), .int .u8 0, .int .u8 0, .int .u8 0, .int .u8 0] 5)).alloc (.cells #[.int .u8 (s + n)] 5)) := below_alloc (below_alloc (Below.refl _ _) _) _
  have how := pw_own_below ho hbel
  have hbw := (hbel.block bp hlt).trans hb
  have hrd : ReadsInt ((w.alloc (.cells #[.int .u8 (s + n), .int .u8 0, .int .u8 0, .int .u8 0, .int .u8 0] 5)).alloc (.cells #[.int .u8 (s + n)] 5)) .u8 (some ⟨w.heap.size, 0, none⟩) 1 [s + n] :=
    reads_blk (cs := #[.int .u8 (s + n), .int .u8 0, .int .u8 0, .int .u8 0, .int .u8 0]) (t := 5) ((Below.heap_alloc _ _ _ (by simp)).trans (heap_alloc_new w _)) rfl (by decide) (fun j hj => by
      match j, hj with
      | 0, _ => rfl)
  have HOW := Lib.hid how
  have HRD := Lib.hid hrd
  have HBW := Lib.hid hbw
  have HBE := Lib.hid hbel
  have HB := Lib.hid hb
  clear hb ho how hrd hbw hbel
  go_enter Try.func106, Try.ntmps106
  go_wp2_with (at_builtin; refine print_append_row (w0 := _) B rfl (.tmp 68) (.tmp 69) 69 5 .u8 1 rfl Try.underlying69 info5 (by omega) v xs [s + n] (some ⟨w.heap.size, 0, none⟩) 1 5 rfl rfl HOW.out HRD.out (Below.refl B _) (by simp; omega) (by omega) ?_; intro v1 w1 hown1 hb1 hg1 hat1; have hp := blk_grown HBW.out hg1 (own_ne HOW.out HBW.out (by decide)); have hcp : w1.cell? ⟨bp, 0, none⟩ = some v := blk_cell hp 0; have hfp := blk_frozen hp 0; obtain ⟨A1, c1, hv1⟩ := own_slice hown1; subst hv1)
  go_end0
  exact ⟨rfl, pb_put (Fr.of_below HBE.out) HBW.out HOW.out hg1 (by rw [List.length_append] at hown1; exact hown1)⟩

set_option maxHeartbeats 1000000 in
set_option maxRecDepth 100000 in
theorem lh2 {B bp : Nat} {xs : List Int} (n : Int) (s l : Int) (w : World) (h : PB w B bp xs) (hB : B ≤ w.heap.size) (hl : xs.length ≤ 1099511627776) (hs : 0 ≤ s ∧ s ≤ 160) (hn : 16 ≤ n) (hn2 : n < 256) :
    Calls Try.prog 106 #[.pointer (some ⟨bp, 0, none⟩), .int .i64 n, .int .u8 s, .int .u8 l] w fun e w' => e = .returned (.tuple #[]) ∧ PB w' B bp (xs ++ [l, n]) ∧ Fr B bp w w' := by
  obtain ⟨v, hb, ho⟩ := h
  obtain ⟨hs0, hs1⟩ := hs
  have hmk := make5
  have hlt := blk_lt hb
  have hc : w.cell? ⟨bp, 0, none⟩ = some v := blk_cell hb 0
  have hbel : Below w.heap.size w ((w.alloc (.cells #[.int .u8 l, .int .u8 n, .int .u8 0, .int .u8 0, .int .u8 0] 5)).alloc (.cells #[.int .u8 l, .int .u8 n] 5)) := below_alloc (below_alloc (Below.refl _ _) _) _
  have how := pw_own_below ho hbel
  have hbw := (hbel.block bp hlt).trans hb
  have hrd : ReadsInt ((w.alloc (.cells #[.int .u8 l, .int .u8 n, .int .u8 0, .int .u8 0, .int .u8 0] 5)).alloc (.cells #[.int .u8 l, .int .u8 n] 5)) .u8 (some ⟨w.heap.size, 0, none⟩) 2 [l, n] :=
    reads_blk (cs := #[.int .u8 l, .int .u8 n, .int .u8 0, .int .u8 0, .int .u8 0]) (t := 5) ((Below.heap_alloc _ _ _ (by simp)).trans (heap_alloc_new w _)) rfl (by decide) (fun j hj => by
      match j, hj with
      | 0, _ => rfl
      | 1, _ => rfl)
  have HOW := Lib.hid how
  have HRD := Lib.hid hrd
  have HBW := Lib.hid hbw
  have HBE := Lib.hid hbel
  have HB := Lib.hid hb
  clear hb ho how hrd hbw hbel
  go_enter Try.func106, Try.ntmps106
  go_wp2_with (at_builtin; refine print_append_row (w0 := _) B rfl (.tmp 68) (.tmp 69) 69 5 .u8 1 rfl Try.underlying69 info5 (by omega) v xs [l, n] (some ⟨w.heap.size, 0, none⟩) 2 5 rfl rfl HOW.out HRD.out (Below.refl B _) (by simp; omega) (by omega) ?_; intro v1 w1 hown1 hb1 hg1 hat1; have hp := blk_grown HBW.out hg1 (own_ne HOW.out HBW.out (by decide)); have hcp : w1.cell? ⟨bp, 0, none⟩ = some v := blk_cell hp 0; have hfp := blk_frozen hp 0; obtain ⟨A1, c1, hv1⟩ := own_slice hown1; subst hv1)
  go_end0
  exact ⟨rfl, pb_put (Fr.of_below HBE.out) HBW.out HOW.out hg1 (by rw [List.length_append] at hown1; exact hown1)⟩

theorem reads3 {w : World} {g : Nat} {t : TypeId} (m a b : Int) (hb : w.heap[g]? = some (.cells (((#[.int .u8 m, .int .u8 0, .int .u8 0, .int .u8 0, .int .u8 0] : Array Value).setIfInBounds 1 (.int .u8 a)).setIfInBounds (1 + 1) (.int .u8 b)) t (0, 0))) :
    ReadsInt w .u8 (some ⟨g, 0, none⟩) 3 [m, a, b] := by
  refine reads_blk hb rfl (by decide) (fun j hj => ?_)
  match j, hj with
  | 0, _ => simp
  | 1, _ => simp
  | 2, _ => simp
theorem reads5 {w : World} {g : Nat} {t : TypeId} (m a b c d : Int) (hb : w.heap[g]? = some (.cells (set4 #[.int .u8 m, .int .u8 0, .int .u8 0, .int .u8 0, .int .u8 0] 1 a b c d) t (0, 0))) :
    ReadsInt w .u8 (some ⟨g, 0, none⟩) 5 [m, a, b, c, d] := by
  have e : set4 #[.int .u8 m, .int .u8 0, .int .u8 0, .int .u8 0, .int .u8 0] 1 a b c d = #[.int .u8 m, .int .u8 a, .int .u8 b, .int .u8 c, .int .u8 d] := by simp [set4]
  rw [e] at hb
  refine reads_blk hb rfl (by decide) (fun j hj => ?_)
  match j, hj with
  | 0, _ => rfl
  | 1, _ => rfl
  | 2, _ => rfl
  | 3, _ => rfl
  | 4, _ => rfl

set_option maxHeartbeats 1000000 in
set_option maxRecDepth 100000 in
theorem lh3 {B bp : Nat} {xs : List Int} (n : Int) (s l : Int) (w : World) (h : PB w B bp xs) (hB : B ≤ w.heap.size) (hl : xs.length ≤ 1099511627776) (hs : 0 ≤ s ∧ s ≤ 160) (hll : 0 ≤ l ∧ l ≤ 240) (hn : 256 ≤ n) (hn2 : n < 65536) :
    Calls Try.prog 106 #[.pointer (some ⟨bp, 0, none⟩), .int .i64 n, .int .u8 s, .int .u8 l] w fun e w' => e = .returned (.tuple #[]) ∧ PB w' B bp (xs ++ [l + 1, n / 256, n % 256]) ∧ Fr B bp w w' := by
  have HH := Lib.hid h
  clear h
  obtain ⟨hs0, hs1⟩ := hs
  obtain ⟨hl0, hl1⟩ := hll
  have hmk := make5
  go_enter Try.func106, Try.ntmps106
  go_wp2_with fail
  refine (put16 _ (heap_alloc_new w _) (by simp) (by omega) (by omega) (by omega)).mono ?_
  rintro e w1 ⟨rfl, hb1, hg1⟩
  have hbel : Below w.heap.size w w1 := (below_alloc (Below.refl _ _) _).grown hg1 (by simp) (by rintro k hk; injection hk with hk; omega)
  obtain ⟨v, hb, ho⟩ := HH.out.move hbel
  have hsz := hbel.size
  have hfr : Fr B bp w w1 := Fr.of_below hbel
  have hc : w1.cell? ⟨bp, 0, none⟩ = some v := blk_cell hb 0
  have hrd : ReadsInt w1 .u8 (some ⟨w.heap.size, 0, none⟩) 3 [l + 1, n / 256, n % 256] := reads3 _ _ _ hb1
  have HRD := Lib.hid hrd
  have HO := Lib.hid ho
  have HB := Lib.hid hb
  have HFR := Lib.hid hfr
  clear hg1 hb1 hrd ho hb hbel hmk hfr
  go_wp2_with (at_builtin; refine print_append_row (w0 := _) B rfl (.tmp 68) (.tmp 69) 69 5 .u8 1 rfl Try.underlying69 info5 (by omega) v xs [l + 1, n / 256, n % 256] (some ⟨w.heap.size, 0, none⟩) 3 5 rfl rfl HO.out HRD.out (Below.refl B _) (by omega) (by omega) ?_; intro v1 w2 hown1 hb1 hg1 hat1; have hp := blk_grown HB.out hg1 (own_ne HO.out HB.out (by decide)); have hcp : w2.cell? ⟨bp, 0, none⟩ = some v := blk_cell hp 0; have hfp := blk_frozen hp 0; obtain ⟨A1, c1, hv1⟩ := own_slice hown1; subst hv1)
  go_end0
  exact ⟨rfl, pb_put HFR.out HB.out HO.out hg1 (by rw [List.length_append] at hown1; exact hown1)⟩

set_option maxHeartbeats 1000000 in
set_option maxRecDepth 100000 in
theorem lh4 {B bp : Nat} {xs : List Int} (n : Int) (s l : Int) (w : World) (h : PB w B bp xs) (hB : B ≤ w.heap.size) (hl : xs.length ≤ 1099511627776) (hs : 0 ≤ s ∧ s ≤ 160) (hll : 0 ≤ l ∧ l ≤ 240) (hn : 65536 ≤ n) (hn2 : n < 4294967295) :
    Calls Try.prog 106 #[.pointer (some ⟨bp, 0, none⟩), .int .i64 n, .int .u8 s, .int .u8 l] w fun e w' => e = .returned (.tuple #[]) ∧ PB w' B bp (xs ++ [l + 2, n / 16777216, n / 65536 % 256, n / 256 % 256, n % 256]) ∧ Fr B bp w w' := by
  have HH := Lib.hid h
  clear h
  obtain ⟨hs0, hs1⟩ := hs
  obtain ⟨hl0, hl1⟩ := hll
  have hmk := make5
  go_enter Try.func106, Try.ntmps106
  go_wp2_with fail
  refine (put32 _ (heap_alloc_new w _) (by simp) (by omega) (by omega) (by omega)).mono ?_
  rintro e w1 ⟨rfl, hb1, hg1⟩
  have hbel : Below w.heap.size w w1 := (below_alloc (Below.refl _ _) _).grown hg1 (by simp) (by rintro k hk; injection hk with hk; omega)
  obtain ⟨v, hb, ho⟩ := HH.out.move hbel
  have hsz := hbel.size
  have hfr : Fr B bp w w1 := Fr.of_below hbel
  have hc : w1.cell? ⟨bp, 0, none⟩ = some v := blk_cell hb 0
  have hrd : ReadsInt w1 .u8 (some ⟨w.heap.size, 0, none⟩) 5 [l + 2, n / 16777216, n / 65536 % 256, n / 256 % 256, n % 256] := reads5 _ _ _ _ _ hb1
  have HRD := Lib.hid hrd
  have HO := Lib.hid ho
  have HB := Lib.hid hb
  have HFR := Lib.hid hfr
  clear hg1 hb1 hrd ho hb hbel hmk hfr
  go_wp2_with (at_builtin; refine print_append_row (w0 := _) B rfl (.tmp 68) (.tmp 69) 69 5 .u8 1 rfl Try.underlying69 info5 (by omega) v xs [l + 2, n / 16777216, n / 65536 % 256, n / 256 % 256, n % 256] (some ⟨w.heap.size, 0, none⟩) 5 5 rfl rfl HO.out HRD.out (Below.refl B _) (by omega) (by omega) ?_; intro v1 w2 hown1 hb1 hg1 hat1; have hp := blk_grown HB.out hg1 (own_ne HO.out HB.out (by decide)); have hcp : w2.cell? ⟨bp, 0, none⟩ = some v := blk_cell hp 0; have hfp := blk_frozen hp 0; obtain ⟨A1, c1, hv1⟩ := own_slice hown1; subst hv1)
  go_end0
  exact ⟨rfl, pb_put HFR.out HB.out HO.out hg1 (by rw [List.length_append] at hown1; exact hown1)⟩

theorem pk_head {B bp : Nat} {xs : List Int} (n : Int) (s l : Int) (w : World) (h : PB w B bp xs) (hB : B ≤ w.heap.size) (hl : xs.length ≤ 1099511627776) (hs : 0 ≤ s ∧ s ≤ 160) (hll : 0 ≤ l ∧ l ≤ 240) (h0 : 0 ≤ n) (h1 : n < 4294967295) :
    Calls Try.prog 106 #[.pointer (some ⟨bp, 0, none⟩), .int .i64 n, .int .u8 s, .int .u8 l] w fun e w' => e = .returned (.tuple #[]) ∧ PB w' B bp (xs ++ encHead s l n) ∧ Fr B bp w w' := by
  unfold encHead
  split
  · exact lh1 n s l w h hB hl hs h0 (by omega)
  · split
    · exact lh2 n s l w h hB hl hs (by omega) (by omega)
    · split
      · exact lh3 n s l w h hB hl hs hll (by omega) (by omega)
      · exact lh4 n s l w h hB hl hs hll (by omega) h1
theorem encHead_len (s l n : Int) : (encHead s l n).length ≤ 5 := by
  unfold encHead
  split
  · simp
  · split
    · simp
    · split <;> simp

set_option maxHeartbeats 1000000 in
theorem pk_array {B bp : Nat} {xs : List Int} (n : Int) (w : World) (h : PB w B bp xs) (hB : B ≤ w.heap.size) (hl : xs.length ≤ 1099511627776) (h0 : 0 ≤ n) (h1 : n < 4294967295) :
    Calls Try.prog 94 #[.pointer (some ⟨bp, 0, none⟩), .int .i64 n] w fun e w' => e = .returned (.tuple #[]) ∧ PB w' B bp (xs ++ encHead 144 212 n) ∧ Fr B bp w w' := by
  have HC := Lib.hid (pk_head n 144 212 w h hB hl (by omega) (by omega) h0 h1)
  go_enter Try.func94, Try.ntmps94
  go_wp2_with fail
  refine HC.out.mono ?_
  rintro e w' ⟨rfl, h2, h3⟩
  go_wp2_with fail
  go_end0
  exact ⟨rfl, h2, h3⟩
set_option maxHeartbeats 1000000 in
theorem pk_map {B bp : Nat} {xs : List Int} (n : Int) (w : World) (h : PB w B bp xs) (hB : B ≤ w.heap.size) (hl : xs.length ≤ 1099511627776) (h0 : 0 ≤ n) (h1 : n < 4294967295) :
    Calls Try.prog 95 #[.pointer (some ⟨bp, 0, none⟩), .int .i64 n] w fun e w' => e = .returned (.tuple #[]) ∧ PB w' B bp (xs ++ encHead 160 216 n) ∧ Fr B bp w w' := by
  have HC := Lib.hid (pk_head n 160 216 w h hB hl (by omega) (by omega) h0 h1)
  go_enter Try.func95, Try.ntmps95
  go_wp2_with fail
  refine HC.out.mono ?_
  rintro e w' ⟨rfl, h2, h3⟩
  go_wp2_with fail
  go_end0
  exact ⟨rfl, h2, h3⟩
/-- A text, packed. -/
def encText (s : ByteArray) : List Int := encHead 128 208 s.size ++ bytesOf s
set_option maxHeartbeats 1000000 in
set_option maxRecDepth 100000 in
theorem pk_string {B bp : Nat} {xs : List Int} (s : ByteArray) (w : World) (h : PB w B bp xs) (hB : B ≤ w.heap.size) (hl : xs.length + s.size ≤ 1099511627776) (h1 : s.size < 4294967295) :
    Calls Try.prog 92 #[.pointer (some ⟨bp, 0, none⟩), .string s] w fun e w' => e = .returned (.tuple #[]) ∧ PB w' B bp (xs ++ encText s) ∧ Fr B bp w w' := by
  have HC := Lib.hid (pk_head s.size 128 208 w h hB (by omega) (by omega) (by omega) (by omega) (by omega))
  have hk := encHead_len 128 208 s.size
  have hbs := fun w => print_bytes (P := Try.prog) 9 69 5 Try.underlying9 Try.underlying69 Try.underlying5 s w
  clear h
  go_enter Try.func92, Try.ntmps92
  go_wp2_with fail
  refine HC.out.mono ?_
  rintro e w1 ⟨rfl, h2, h3⟩
  have hsz := h3.size
  obtain ⟨v, hb, ho⟩ := h2
  have hlt := blk_lt hb
  have hc : w1.cell? ⟨bp, 0, none⟩ = some v := blk_cell hb 0
  have hbelB := bytes_below (Below.refl w1.heap.size w1) (Nat.le_refl _) 5 s
  have HOW := Lib.hid (pw_own_below ho hbelB)
  have HBW := Lib.hid ((hbelB.block bp hlt).trans hb)
  have HRD := Lib.hid (bytes_reads w1 5 s (by omega))
  have HFR := Lib.hid (h3.trans (Fr.of_below hbelB))
  have hzz := hbelB.size
  have hlen : (xs ++ encHead 128 208 s.size).length ≤ xs.length + 5 := by rw [List.length_append]; omega
  clear ho hb hbelB h3 HC
  go_wp2_with (at_builtin; refine print_append_row (w0 := _) B rfl (.tmp 12) (.tmp 14) 69 5 .u8 1 rfl Try.underlying69 info5 (by omega) v (xs ++ encHead 128 208 s.size) (bytesOf s) (some ⟨w1.heap.size, 0, none⟩) s.size _ rfl rfl HOW.out HRD.out (Below.refl B _) (by omega) (by omega) ?_; intro v1 w2 hown1 hb1 hg1 hat1; have hp := blk_grown HBW.out hg1 (own_ne HOW.out HBW.out (by decide)); have hcp : w2.cell? ⟨bp, 0, none⟩ = some v := blk_cell hp 0; have hfp := blk_frozen hp 0; obtain ⟨A1, c1, hv1⟩ := own_slice hown1; subst hv1)
  have h9 : (xs ++ encHead 128 208 s.size ++ bytesOf s).length = xs.length + ((encHead 128 208 s.size).length + (bytesOf s).length) := by
    rw [List.length_append, List.length_append, Nat.add_assoc]
  rw [h9] at hown1
  go_end0
  have hfin := pb_put HFR.out HBW.out HOW.out hg1 hown1
  rw [List.append_assoc] at hfin
  exact ⟨rfl, hfin.1, hfin.2⟩

/-- Bytes, packed. -/
def encByteHead (n : Int) : List Int := if n < 256 then [204, n] else [205, n / 256, n % 256]


/-- Bytes that lie apart from the packer's own. -/
def Apart (w : World) (bp : Nat) (A : Option Addr) : Prop := ∀ ad, A = some ad → ad.block ≠ bp ∧ ∀ v, w.heap[bp]? = some (.cells #[v, .nilIface] 83 (0, 0)) → v.ownBlock ≠ some ad.block

set_option maxHeartbeats 2000000 in
set_option maxRecDepth 100000 in
theorem by1 {B bp : Nat} {xs ys : List Int} {A : Option Addr} {n c : Nat} (w : World) (h : PB w B bp xs) (hB : B ≤ w.heap.size) (hl : xs.length + n ≤ 1099511627776) (hr : ReadsInt w .u8 A n ys) (hA : Apart w bp A) (hn : n < 256) :
    Calls Try.prog 93 #[.pointer (some ⟨bp, 0, none⟩), .slice A n c] w fun e w' => e = .returned (.tuple #[]) ∧ PB w' B bp (xs ++ [204, (n : Int)] ++ ys) ∧ Fr B bp w w' := by
  obtain ⟨v, hb, ho⟩ := h
  have hmk := make5
  have hlt := blk_lt hb
  have hap : ∀ ad, A = some ad → ad.block ≠ bp ∧ v.ownBlock ≠ some ad.block := fun ad e => ⟨(hA ad e).1, (hA ad e).2 v hb⟩
  have h9 : (xs ++ [204, (n : Int)]).length = xs.length + 2 := by simp
  have HAP := Lib.hid hap
  have H9 := Lib.hid h9
  clear hA hap h9
  have hc : w.cell? ⟨bp, 0, none⟩ = some v := blk_cell hb 0
  have hbel : Below w.heap.size w ((w.alloc (.cells #[.int .u8 204, .int .u8 (n : Int), .int .u8 0, .int .u8 0, .int .u8 0] 5)).alloc (.cells #[.int .u8 204, .int .u8 (n : Int)] 5)) := below_alloc (below_alloc (Below.refl _ _) _) _
  have how := pw_own_below ho hbel
  have hbw := (hbel.block bp hlt).trans hb
  have hrd : ReadsInt ((w.alloc (.cells #[.int .u8 204, .int .u8 (n : Int), .int .u8 0, .int .u8 0, .int .u8 0] 5)).alloc (.cells #[.int .u8 204, .int .u8 (n : Int)] 5)) .u8 (some ⟨w.heap.size, 0, none⟩) 2 [204, (n : Int)] :=
    reads_blk (cs := #[.int .u8 204, .int .u8 (n : Int), .int .u8 0, .int .u8 0, .int .u8 0]) (t := 5) ((Below.heap_alloc _ _ _ (by simp)).trans (heap_alloc_new w _)) rfl (by decide) (fun j hj => by
      match j, hj with
      | 0, _ => rfl
      | 1, _ => rfl)
  have hry := hr.below hbel
  have HOW := Lib.hid how
  have HRD := Lib.hid hrd
  have HRY := Lib.hid hry
  have HBW := Lib.hid hbw
  have HBE := Lib.hid hbel
  clear hb ho how hrd hbw hbel hry hr
  go_enter Try.func93, Try.ntmps93
  go_wp2_with (first | (at_builtin; refine print_append_row (w0 := _) B rfl (.tmp 51) (.tmp 52) 69 5 .u8 1 rfl Try.underlying69 info5 (by omega) v xs [204, (n : Int)] (some ⟨w.heap.size, 0, none⟩) 2 5 rfl rfl HOW.out HRD.out (Below.refl B _) (by simp; omega) (by omega) ?_; intro v1 w1 hown1 hb1 hg1 hat1; have hp := blk_grown HBW.out hg1 (own_ne HOW.out HBW.out (by decide)); have hcp : w1.cell? ⟨bp, 0, none⟩ = some v := blk_cell hp 0; have hfp := blk_frozen hp 0; obtain ⟨A1, c1, hv1⟩ := own_slice hown1; subst hv1; rw [H9.out] at hown1; have HF1 := Lib.hid (pb_put (Fr.of_below HBE.out) HBW.out HOW.out hg1 hown1).2; have HO2 := Lib.hid (own_setCell (p := ⟨bp, 0, none⟩) hown1 (own_ne hown1 hp (by decide)) (.slice A1 (xs.length + 2) c1)); have HB2 := Lib.hid (blk_set hp 0 (.slice A1 (xs.length + 2) c1)); have HRY2 := Lib.hid (reads_keep (w' := w1.setCell ⟨bp, 0, none⟩ (.slice A1 (xs.length + 2) c1)) HRY.out (fun ad e hlt' => (Below.heap_setCell w1 _ _ _ (HAP.out ad e).1).trans (hg1.block _ hlt' (fun e' => (HAP.out ad e).2 e'.symm)))); have hz2 : B ≤ (w1.setCell ⟨bp, 0, none⟩ (.slice A1 (xs.length + 2) c1)).heap.size := (by have hz1 := hg1.size; simp [World.setCell] at hz1 ⊢; omega); have HO3 : Hid ((w1.setCell ⟨bp, 0, none⟩ (.slice A1 (xs.length + 2) c1)).ownsRow B 5 1 (.slice A1 (xs.length + 2) c1) (xs ++ [204, (n : Int)]).length (nums .u8 (xs ++ [204, (n : Int)]))) := (by rw [H9.out]; exact HO2); have hl3 : (xs ++ [204, (n : Int)]).length + n ≤ 140737488355328 := (by rw [H9.out]; omega); have HL3 := Lib.hid hl3; clear hown1 hb1 hg1 hat1 hp hl3) | (at_builtin; refine print_append_row (w0 := _) B rfl (.tmp 60) (.tmp 61) 69 5 .u8 1 rfl Try.underlying69 info5 (by omega) (.slice A1 (xs.length + 2) c1) (xs ++ [204, (n : Int)]) ys A n c rfl rfl HO3.out HRY2.out (Below.refl B _) hz2 (by have h5 := HL3.out; omega) ?_; intro v2 w2 hown2 hb3 hg2 hat2; have hp2 := blk_grown HB2.out hg2 (own_ne HO3.out HB2.out (by decide)); have hcp2 : w2.cell? ⟨bp, 0, none⟩ = some _ := blk_cell hp2 0; have hfp2 := blk_frozen hp2 0; obtain ⟨A2, c2, hv2⟩ := own_slice hown2; subst hv2; have hfin := Lib.hid (pb_put HF1.out HB2.out HO3.out hg2 hown2); clear hown2 hb3 hat2 hp2 hg2))
  have h5 : (xs ++ [204, (n : Int)] ++ ys).length = xs.length + (ys.length + 1 + 1) := by simp
  have hf := hfin.out
  rw [h5] at hf
  go_end0
  exact ⟨rfl, hf.1, hf.2⟩

set_option maxHeartbeats 2000000 in
set_option maxRecDepth 100000 in
theorem by2 {B bp : Nat} {xs ys : List Int} {A : Option Addr} {n c : Nat} (w : World) (h : PB w B bp xs) (hB : B ≤ w.heap.size) (hl : xs.length + n ≤ 1099511627776) (hr : ReadsInt w .u8 A n ys) (hA : Apart w bp A) (m : Int) (hm : (n : Int) = m) (hn : 256 ≤ n) (hn2 : n < 65536) :
    Calls Try.prog 93 #[.pointer (some ⟨bp, 0, none⟩), .slice A n c] w fun e w' => e = .returned (.tuple #[]) ∧ PB w' B bp (xs ++ [205, m / 256, m % 256] ++ ys) ∧ Fr B bp w w' := by
  have HH := Lib.hid h
  have hlt := h.lt
  have hmk := make5
  have HAA := Lib.hid hA
  have HR := Lib.hid hr
  have hm0 : 256 ≤ m := by omega
  have hm1 : m < 65536 := by omega
  have HM := Lib.hid hm
  clear h hA hr hn hn2 hm
  go_enter Try.func93, Try.ntmps93
  go_upto_region 3 with (fail)
  rw [HM.out]
  go_wp2_with fail
  refine (put16 _ (heap_alloc_new w _) (by simp) (by omega) (by omega) (by omega)).mono ?_
  rintro e w0 ⟨rfl, hb1, hg1⟩
  have hbel : Below w.heap.size w w0 := (below_alloc (Below.refl _ _) _).grown hg1 (by simp) (by rintro k hk; injection hk with hk; omega)
  have hpb := HH.out.move hbel
  obtain ⟨v, hb, ho⟩ := hpb
  have hap : ∀ ad, A = some ad → ad.block ≠ bp ∧ v.ownBlock ≠ some ad.block := fun ad e => ⟨(HAA.out ad e).1, (HAA.out ad e).2 v ((hbel.block bp hlt).symm.trans hb)⟩
  have h9 : (xs ++ [205, m / 256, m % 256]).length = xs.length + 3 := by simp
  have hsz := hbel.size
  have HAP := Lib.hid hap
  have H9 := Lib.hid h9
  have hc : w0.cell? ⟨bp, 0, none⟩ = some v := blk_cell hb 0
  have HRD := Lib.hid (reads3 _ _ _ hb1 : ReadsInt w0 .u8 (some ⟨w.heap.size, 0, none⟩) 3 [205, m / 256, m % 256])
  have HRY := Lib.hid (HR.out.below hbel)
  have HOW := Lib.hid ho
  have HBW := Lib.hid hb
  have HBE := Lib.hid hbel
  clear hb1 hg1 hbel ho hb hap h9 hmk HR HAA HH
  go_wp2_with (first | (at_builtin; refine print_append_row (w0 := _) B rfl (.tmp 51) (.tmp 52) 69 5 .u8 1 rfl Try.underlying69 info5 (by omega) v xs [205, m / 256, m % 256] (some ⟨w.heap.size, 0, none⟩) 3 5 rfl rfl HOW.out HRD.out (Below.refl B _) (by omega) (by omega) ?_; intro v1 w1 hown1 hb1 hg1 hat1; have hp := blk_grown HBW.out hg1 (own_ne HOW.out HBW.out (by decide)); have hcp : w1.cell? ⟨bp, 0, none⟩ = some v := blk_cell hp 0; have hfp := blk_frozen hp 0; obtain ⟨A1, c1, hv1⟩ := own_slice hown1; subst hv1; rw [H9.out] at hown1; have HF1 := Lib.hid (pb_put (Fr.of_below HBE.out) HBW.out HOW.out hg1 hown1).2; have HO2 := Lib.hid (own_setCell (p := ⟨bp, 0, none⟩) hown1 (own_ne hown1 hp (by decide)) (.slice A1 (xs.length + 3) c1)); have HB2 := Lib.hid (blk_set hp 0 (.slice A1 (xs.length + 3) c1)); have HRY2 := Lib.hid (reads_keep (w' := w1.setCell ⟨bp, 0, none⟩ (.slice A1 (xs.length + 3) c1)) HRY.out (fun ad e hlt' => (Below.heap_setCell w1 _ _ _ (HAP.out ad e).1).trans (hg1.block _ hlt' (fun e' => (HAP.out ad e).2 e'.symm)))); have hz2 : B ≤ (w1.setCell ⟨bp, 0, none⟩ (.slice A1 (xs.length + 3) c1)).heap.size := (by have hz1 := hg1.size; simp [World.setCell] at hz1 ⊢; omega); have HO3 : Hid ((w1.setCell ⟨bp, 0, none⟩ (.slice A1 (xs.length + 3) c1)).ownsRow B 5 1 (.slice A1 (xs.length + 3) c1) (xs ++ [205, m / 256, m % 256]).length (nums .u8 (xs ++ [205, m / 256, m % 256]))) := (by rw [H9.out]; exact HO2); have hl3 : (xs ++ [205, m / 256, m % 256]).length + n ≤ 140737488355328 := (by rw [H9.out]; omega); have HL3 := Lib.hid hl3; clear hown1 hb1 hg1 hat1 hp hl3) | (at_builtin; refine print_append_row (w0 := _) B rfl (.tmp 60) (.tmp 61) 69 5 .u8 1 rfl Try.underlying69 info5 (by omega) (.slice A1 (xs.length + 3) c1) (xs ++ [205, m / 256, m % 256]) ys A n c rfl rfl HO3.out HRY2.out (Below.refl B _) hz2 (by have h5 := HL3.out; omega) ?_; intro v2 w2 hown2 hb3 hg2 hat2; have hp2 := blk_grown HB2.out hg2 (own_ne HO3.out HB2.out (by decide)); have hcp2 : w2.cell? ⟨bp, 0, none⟩ = some _ := blk_cell hp2 0; have hfp2 := blk_frozen hp2 0; obtain ⟨A2, c2, hv2⟩ := own_slice hown2; subst hv2; have hfin := Lib.hid (pb_put HF1.out HB2.out HO3.out hg2 hown2); clear hown2 hb3 hat2 hp2 hg2))
  have h5 : (xs ++ [205, m / 256, m % 256] ++ ys).length = xs.length + (ys.length + 1 + 1 + 1) := by simp
  have hf := hfin.out
  rw [h5] at hf
  go_end0
  exact ⟨rfl, hf.1, hf.2⟩

end Go.Proofs.Ytjnookhdiolhgaa
