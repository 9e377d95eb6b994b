/- The packer's small methods: each appends what it should to the buffer. -/
import Derived.Test.YtkogipaaioibaaaGreatDoorCore
import Derived.Test.YtkogipaaioibaaaGreatDoorPut
import Derived.Deep.RegionLaw
import Derived.Deep.RegionWith
import Derived.Laws.StandIn
namespace Go.Proofs.YtkogipaaioibaaaGreatDoor
open Go.RowKit Go.Proofs.YtkogipaaioibaaaGreatDoorW.PrintWords
open PAll (info5)


/-- The room that the buffer has. -/
def room : Nat := 1099511627776

set_option maxHeartbeats 1000000 in
set_option maxRecDepth 100000 in
theorem pk_nil {B bp : Nat} {xs : List Int} (w : World) (h : PB w B bp xs) (hB : B ≤ w.heap.size) (hl : xs.length ≤ 1099511627776) :
    Calls Tryz.prog 50 #[.pointer (some ⟨bp, 0, none⟩)] w fun e w' => e = .returned (.tuple #[]) ∧ PB w' B bp (xs ++ [192]) ∧ Fr B bp w w' := by
  obtain ⟨v, hb, ho⟩ := h
  have hc : w.cell? ⟨bp, 0, none⟩ = some v := blk_cell hb 0
  have hlt := blk_lt hb
  go_enter Tryz.func50, Tryz.ntmps50
  go_wp2_with (at_builtin; refine print_append_num (w0 := w) B rfl _ _ 42 5 .u8 1 rfl Tryz.underlying42 info5 (by omega) v xs 192 rfl rfl ho (Below.refl B _) hB (by omega) ?_; intro v1 w1 hown1 hb1 hg1 hat1; have hp := blk_grown hb hg1 (own_ne ho hb (by decide)); have hcp : w1.cell? ⟨bp, 0, none⟩ = some v := blk_cell hp 0; have hfp := blk_frozen hp 0; obtain ⟨A1, c1, hv1⟩ := own_slice hown1; subst hv1)
  go_end0
  exact ⟨rfl, pb_put (Fr.refl B bp w) hb ho hg1 (by rw [List.length_append] at hown1; exact hown1)⟩

set_option maxHeartbeats 1000000 in
set_option maxRecDepth 100000 in
theorem pk_bool {B bp : Nat} {xs : List Int} (b : Bool) (w : World) (h : PB w B bp xs) (hB : B ≤ w.heap.size) (hl : xs.length ≤ 1099511627776) :
    Calls Tryz.prog 51 #[.pointer (some ⟨bp, 0, none⟩), .bool b] w fun e w' => e = .returned (.tuple #[]) ∧ PB w' B bp (xs ++ [if b then 195 else 194]) ∧ Fr B bp w w' := by
  obtain ⟨v, hb, ho⟩ := h
  have hc : w.cell? ⟨bp, 0, none⟩ = some v := blk_cell hb 0
  have hlt := blk_lt hb
  cases b
  · go_enter Tryz.func51, Tryz.ntmps51
    go_wp2_with (at_builtin; refine print_append_num (w0 := w) B rfl _ _ 42 5 .u8 1 rfl Tryz.underlying42 info5 (by omega) v xs 194 rfl rfl ho (Below.refl B _) hB (by omega) ?_; intro v1 w1 hown1 hb1 hg1 hat1; have hp := blk_grown hb hg1 (own_ne ho hb (by decide)); have hcp : w1.cell? ⟨bp, 0, none⟩ = some v := blk_cell hp 0; have hfp := blk_frozen hp 0; obtain ⟨A1, c1, hv1⟩ := own_slice hown1; subst hv1)
    go_end0
    exact ⟨rfl, pb_put (Fr.refl B bp w) hb ho hg1 (by rw [List.length_append] at hown1; exact hown1)⟩
  · go_enter Tryz.func51, Tryz.ntmps51
    go_wp2_with (at_builtin; refine print_append_num (w0 := w) B rfl _ _ 42 5 .u8 1 rfl Tryz.underlying42 info5 (by omega) v xs 195 rfl rfl ho (Below.refl B _) hB (by omega) ?_; intro v1 w1 hown1 hb1 hg1 hat1; have hp := blk_grown hb hg1 (own_ne ho hb (by decide)); have hcp : w1.cell? ⟨bp, 0, none⟩ = some v := blk_cell hp 0; have hfp := blk_frozen hp 0; obtain ⟨A1, c1, hv1⟩ := own_slice hown1; subst hv1)
    first | go_end0 | refine bodyPost_ret (results_none rfl _ _ _) rfl ?_
    exact ⟨rfl, pb_put (Fr.refl B bp w) hb ho hg1 (by rw [List.length_append] at hown1; exact hown1)⟩

set_option maxHeartbeats 1000000 in
set_option maxRecDepth 100000 in
theorem pk_struct {B bp : Nat} {xs : List Int} (tag : Int) (n : Nat) (w : World) (h : PB w B bp xs) (hB : B ≤ w.heap.size) (hl : xs.length ≤ 1099511627776) (hn : n ≤ 15) :
    Calls Tryz.prog 59 #[.pointer (some ⟨bp, 0, none⟩), .int .u8 tag, .int .i64 n] w fun e w' => e = .returned (.tuple #[]) ∧ PB w' B bp (xs ++ [176 + (n : Int), tag]) ∧ Fr B bp w w' := by
  obtain ⟨v, hb, ho⟩ := h
  have hc : w.cell? ⟨bp, 0, none⟩ = some v := blk_cell hb 0
  have hlt := blk_lt hb

  have how := pw_own_below ho (below_alloc (Below.refl _ _) (.cells #[.int .u8 (176 + (n : Int)), .int .u8 tag] 5))
  have hbw : (w.alloc (.cells #[.int .u8 (176 + (n : Int)), .int .u8 tag] 5)).heap[bp]? = _ := (Below.heap_alloc w _ bp hlt).trans hb
  go_enter Tryz.func59, Tryz.ntmps59
  go_wp2_with (at_builtin; refine print_append_row (w0 := w.alloc (.cells #[.int .u8 (176 + (n : Int)), .int .u8 tag] 5)) B rfl _ _ 42 5 .u8 1 rfl Tryz.underlying42 info5 (by omega) v xs [176 + (n : Int), tag] (some ⟨w.heap.size, 0, none⟩) 2 2 rfl rfl how (reads2 w _ _) (Below.refl B _) (by simp; omega) (by omega) ?_; intro v1 w1 hown1 hb1 hg1 hat1; have hp := blk_grown hbw hg1 (own_ne how hbw (by decide)); have hcp : w1.cell? ⟨bp, 0, none⟩ = some v := blk_cell hp 0; have hfp := blk_frozen hp 0; obtain ⟨A1, c1, hv1⟩ := own_slice hown1; subst hv1)
  go_end0
  exact ⟨rfl, pb_put ((Fr.refl B bp w).alloc _) hbw how hg1 (by rw [List.length_append] at hown1; exact hown1)⟩

/-- The bytes of a whole number, packed. -/
def encInt (i : Int) : List Int :=
  if -16 ≤ i ∧ i < 128 then [i % 256]
  else if -128 ≤ i ∧ i < -16 then [200, i % 256]
  else if -32768 ≤ i ∧ i < 32768 then [201, i % 65536 / 256, i % 65536 % 256]
  else if -2147483648 ≤ i ∧ i < 2147483648 then [202, i % 4294967296 / 16777216, i % 4294967296 / 65536 % 256, i % 4294967296 / 256 % 256, i % 4294967296 % 256]
  else [203, i % 18446744073709551616 / 4294967296 / 16777216, i % 18446744073709551616 / 4294967296 / 65536 % 256, i % 18446744073709551616 / 4294967296 / 256 % 256, i % 18446744073709551616 / 4294967296 % 256,
    i % 18446744073709551616 % 4294967296 / 16777216, i % 18446744073709551616 % 4294967296 / 65536 % 256, i % 18446744073709551616 % 4294967296 / 256 % 256, i % 18446744073709551616 % 4294967296 % 256]

theorem pk_int1 {B bp : Nat} {xs : List Int} (i : Int) (w : World) (h : PB w B bp xs) (hB : B ≤ w.heap.size) (hl : xs.length ≤ 1099511627776) (h0 : -16 ≤ i) (h1 : i < 128) :
    Calls Tryz.prog 52 #[.pointer (some ⟨bp, 0, none⟩), .int .i64 i] w fun e w' => e = .returned (.tuple #[]) ∧ PB w' B bp (xs ++ [i % 256]) ∧ Fr B bp w w' := by
  obtain ⟨v, hb, ho⟩ := h
  have hc : w.cell? ⟨bp, 0, none⟩ = some v := blk_cell hb 0
  have hlt := blk_lt hb
  go_enter Tryz.func52, Tryz.ntmps52
  go_wp2_with (at_builtin; refine print_append_num (w0 := w) B rfl _ _ 42 5 .u8 1 rfl Tryz.underlying42 info5 (by omega) v xs (i % 256) rfl rfl ho (Below.refl B _) hB (by omega) ?_; intro v1 w1 hown1 hb1 hg1 hat1; have hp := blk_grown hb hg1 (own_ne ho hb (by decide)); have hcp : w1.cell? ⟨bp, 0, none⟩ = some v := blk_cell hp 0; have hfp := blk_frozen hp 0; obtain ⟨A1, c1, hv1⟩ := own_slice hown1; subst hv1)
  go_end0
  exact ⟨rfl, pb_put (Fr.refl B bp w) hb ho hg1 (by rw [List.length_append] at hown1; exact hown1)⟩

set_option maxHeartbeats 1000000 in
set_option maxRecDepth 100000 in
theorem pk_int2 {B bp : Nat} {xs : List Int} (i : Int) (w : World) (h : PB w B bp xs) (hB : B ≤ w.heap.size) (hl : xs.length ≤ 1099511627776) (h0 : -128 ≤ i) (h1 : i < -16) :
    Calls Tryz.prog 52 #[.pointer (some ⟨bp, 0, none⟩), .int .i64 i] w fun e w' => e = .returned (.tuple #[]) ∧ PB w' B bp (xs ++ [200, i % 256]) ∧ Fr B bp w w' := by
  obtain ⟨v, hb, ho⟩ := h
  have hc : w.cell? ⟨bp, 0, none⟩ = some v := blk_cell hb 0
  have hlt := blk_lt hb
  have how := pw_own_below ho (below_alloc (Below.refl _ _) (.cells #[.int .u8 200, .int .u8 (i % 256)] 5))
  have hbw : (w.alloc (.cells #[.int .u8 200, .int .u8 (i % 256)] 5)).heap[bp]? = _ := (Below.heap_alloc w _ bp hlt).trans hb
  go_enter Tryz.func52, Tryz.ntmps52
  go_wp2_with (at_builtin; refine print_append_row (w0 := w.alloc (.cells #[.int .u8 200, .int .u8 (i % 256)] 5)) B rfl _ _ 42 5 .u8 1 rfl Tryz.underlying42 info5 (by omega) v xs [200, i % 256] (some ⟨w.heap.size, 0, none⟩) 2 2 rfl rfl how (reads2 w _ _) (Below.refl B _) (by simp; omega) (by omega) ?_; intro v1 w1 hown1 hb1 hg1 hat1; have hp := blk_grown hbw hg1 (own_ne how hbw (by decide)); have hcp : w1.cell? ⟨bp, 0, none⟩ = some v := blk_cell hp 0; have hfp := blk_frozen hp 0; obtain ⟨A1, c1, hv1⟩ := own_slice hown1; subst hv1)
  go_end0
  exact ⟨rfl, pb_put ((Fr.refl B bp w).alloc _) hbw how hg1 (by rw [List.length_append] at hown1; exact hown1)⟩

set_option maxHeartbeats 1000000 in
set_option maxRecDepth 100000 in
theorem pk_int3 {B bp : Nat} {xs : List Int} (i : Int) (w : World) (h : PB w B bp xs) (hB : B ≤ w.heap.size) (hl : xs.length ≤ 1099511627776) (h0 : -32768 ≤ i) (h1 : i < 32768) (h2 : i < -128 ∨ 128 ≤ i) :
    Calls Tryz.prog 52 #[.pointer (some ⟨bp, 0, none⟩), .int .i64 i] w fun e w' => e = .returned (.tuple #[]) ∧ PB w' B bp (xs ++ [201, i % 65536 / 256, i % 65536 % 256]) ∧ Fr B bp w w' := by
  have hw : IntKind.u16.wrap i = i % 65536 := IntKind.wrap_u16 i
  have hm : 0 ≤ i % 65536 ∧ i % 65536 < 65536 := by omega
  have HH := Lib.hid h
  clear h
  rcases h2 with h2 | h2
  all_goals
    go_enter Tryz.func52, Tryz.ntmps52
    go_wp2_with fail
    refine (put16 _ (heap_alloc_new w _) (by simp) (by omega) hm.1 hm.2).mono ?_
    rintro e w1 ⟨rfl, hb1, hg1⟩
    have hbel : Below w.heap.size w w1 := (below_alloc (Below.refl _ _) _).grown hg1 (by simp) (by rintro k hk; injection hk with hk; omega)
    obtain ⟨v, hb, ho⟩ := HH.out.move hbel
    have hsz := hbel.size
    have hfr : Fr B bp w w1.drew := (Fr.of_below hbel).drew
    have hc : w1.cell? ⟨bp, 0, none⟩ = some v := blk_cell hb 0
    have hrd : ReadsInt w1.drew .u8 (some ⟨w.heap.size, 0, none⟩) 3 [201, i % 65536 / 256, i % 65536 % 256] := reads_blk (w := w1.drew) hb1 rfl (by decide) (fun j hj => by
      match j, hj with
      | 0, _ => rfl
      | 1, _ => rfl
      | 2, _ => rfl)
    have HG1 := Lib.hid hg1
    have HB1 := Lib.hid hb1
    have HRD := Lib.hid hrd
    have HO := Lib.hid ho
    have HB := Lib.hid hb
    have HBE := Lib.hid hbel
    clear hg1 hb1 hrd ho hb hbel hw hm
    go_wp2_with fail
    go_region_law (refine step_append_ints (W := w1.drew) (B := B) rfl (.tmp 73) (.tmp 74) 42 rfl Tryz.underlying42 info5 v xs [201, i % 65536 / 256, i % 65536 % 256] (by simp [Act.eval]) HO.out ⟨w.heap.size, 0, none⟩ 3 3 (by simp [Act.eval]) HRD.out (by decide) (by omega) (by show B ≤ w1.heap.size; omega) ?_; intro g cap w2 hown2 hg2; have hp := blk_grown (w := w1.drew) HB.out hg2 (own_ne (w := w1.drew) HO.out HB.out (by decide)); have hcp : w2.cell? ⟨bp, 0, none⟩ = some v := blk_cell hp 0; have hfp := blk_frozen hp 0)
    all_goals
      go_end0
      exact ⟨rfl, pb_put hfr HB.out HO.out hg2 hown2⟩
set_option maxHeartbeats 1000000 in
set_option maxRecDepth 100000 in
theorem pk_int4 {B bp : Nat} {xs : List Int} (i : Int) (w : World) (h : PB w B bp xs) (hB : B ≤ w.heap.size) (hl : xs.length ≤ 1099511627776) (h0 : -2147483648 ≤ i) (h1 : i < 2147483648) (h2 : i < -32768 ∨ 32768 ≤ i) :
    Calls Tryz.prog 52 #[.pointer (some ⟨bp, 0, none⟩), .int .i64 i] w fun e w' => e = .returned (.tuple #[]) ∧ PB w' B bp (xs ++ [202, i % 4294967296 / 16777216, i % 4294967296 / 65536 % 256, i % 4294967296 / 256 % 256, i % 4294967296 % 256]) ∧ Fr B bp w w' := by
  have hw : IntKind.u32.wrap i = i % 4294967296 := IntKind.wrap_u32 i
  have hm : 0 ≤ i % 4294967296 ∧ i % 4294967296 < 4294967296 := by omega
  have HH := Lib.hid h
  clear h
  rcases h2 with h2 | h2
  all_goals
    go_enter Tryz.func52, Tryz.ntmps52
    go_wp2_with fail
    refine (put32 _ (heap_alloc_new w _) (by simp) (by omega) hm.1 hm.2).mono ?_
    rintro e w1 ⟨rfl, hb1, hg1⟩
    have hbel : Below w.heap.size w w1 := (below_alloc (Below.refl _ _) _).grown hg1 (by simp) (by rintro k hk; injection hk with hk; omega)
    obtain ⟨v, hb, ho⟩ := HH.out.move hbel
    have hsz := hbel.size
    have hfr : Fr B bp w w1.drew := (Fr.of_below hbel).drew
    have hc : w1.cell? ⟨bp, 0, none⟩ = some v := blk_cell hb 0
    have hrd : ReadsInt w1.drew .u8 (some ⟨w.heap.size, 0, none⟩) 5 [202, i % 4294967296 / 16777216, i % 4294967296 / 65536 % 256, i % 4294967296 / 256 % 256, i % 4294967296 % 256] := reads_blk (w := w1.drew) hb1 rfl (by decide) (fun j hj => by
      match j, hj with
      | 0, _ => rfl
      | 1, _ => rfl
      | 2, _ => rfl
      | 3, _ => rfl
      | 4, _ => rfl)
    have HG1 := Lib.hid hg1
    have HB1 := Lib.hid hb1
    have HRD := Lib.hid hrd
    have HO := Lib.hid ho
    have HB := Lib.hid hb
    have HBE := Lib.hid hbel
    clear hg1 hb1 hrd ho hb hbel hw hm
    go_wp2_with fail
    go_region_law (refine step_append_ints (W := w1.drew) (B := B) rfl (.tmp 94) (.tmp 95) 42 rfl Tryz.underlying42 info5 v xs [202, i % 4294967296 / 16777216, i % 4294967296 / 65536 % 256, i % 4294967296 / 256 % 256, i % 4294967296 % 256] (by simp [Act.eval]) HO.out ⟨w.heap.size, 0, none⟩ 5 5 (by simp [Act.eval]) HRD.out (by decide) (by omega) (by show B ≤ w1.heap.size; omega) ?_; intro g cap w2 hown2 hg2; have hp := blk_grown (w := w1.drew) HB.out hg2 (own_ne (w := w1.drew) HO.out HB.out (by decide)); have hcp : w2.cell? ⟨bp, 0, none⟩ = some v := blk_cell hp 0; have hfp := blk_frozen hp 0)
    all_goals
      go_end0
      exact ⟨rfl, pb_put hfr HB.out HO.out hg2 hown2⟩
/-- A marker and eight bytes behind it, as PutUint64 has left them. -/
theorem reads9 {w : World} {g : Nat} {t : TypeId} (m a b c d e f k h : Int)
    (hb : w.heap[g]? = some (.cells (set4 (set4 #[.int .u8 m, .int .u8 0, .int .u8 0, .int .u8 0, .int .u8 0, .int .u8 0, .int .u8 0, .int .u8 0, .int .u8 0] 1 a b c d) (1 + 4) e f k h) t (0, 0))) :
    ReadsInt w .u8 (some ⟨g, 0, none⟩) 9 [m, a, b, c, d, e, f, k, h] := by
  have e9 : set4 (set4 #[.int .u8 m, .int .u8 0, .int .u8 0, .int .u8 0, .int .u8 0, .int .u8 0, .int .u8 0, .int .u8 0, .int .u8 0] 1 a b c d) (1 + 4) e f k h =
      #[.int .u8 m, .int .u8 a, .int .u8 b, .int .u8 c, .int .u8 d, .int .u8 e, .int .u8 f, .int .u8 k, .int .u8 h] := by simp [set4]
  rw [e9] at hb
  refine reads_blk hb rfl (by decide) (fun j hj => ?_)
  match j, hj with
  | 0, _ => rfl
  | 1, _ => rfl
  | 2, _ => rfl
  | 3, _ => rfl
  | 4, _ => rfl
  | 5, _ => rfl
  | 6, _ => rfl
  | 7, _ => rfl
  | 8, _ => rfl

set_option maxHeartbeats 1000000 in
set_option maxRecDepth 100000 in
theorem pk_int5 {B bp : Nat} {xs : List Int} (i : Int) (w : World) (h : PB w B bp xs) (hB : B ≤ w.heap.size) (hl : xs.length ≤ 1099511627776) (h0 : -9223372036854775808 ≤ i) (h1 : i < 9223372036854775808) (h2 : i < -2147483648 ∨ 2147483648 ≤ i) :
    Calls Tryz.prog 52 #[.pointer (some ⟨bp, 0, none⟩), .int .i64 i] w fun e w' => e = .returned (.tuple #[]) ∧ PB w' B bp (xs ++ [203, i % 18446744073709551616 / 4294967296 / 16777216, i % 18446744073709551616 / 4294967296 / 65536 % 256, i % 18446744073709551616 / 4294967296 / 256 % 256, i % 18446744073709551616 / 4294967296 % 256, i % 18446744073709551616 % 4294967296 / 16777216, i % 18446744073709551616 % 4294967296 / 65536 % 256, i % 18446744073709551616 % 4294967296 / 256 % 256, i % 18446744073709551616 % 4294967296 % 256]) ∧ Fr B bp w w' := by
  obtain ⟨u, hu⟩ : ∃ u, i % 18446744073709551616 = u := ⟨_, rfl⟩
  have hw : IntKind.u64.wrap i = u := (IntKind.wrap_u64 i).trans hu
  have hm : 0 ≤ u ∧ u < 18446744073709551616 := by omega
  rw [hu]
  have HM := Lib.hid hm
  have HH := Lib.hid h
  have H0 := Lib.hid h0
  have H1 := Lib.hid h1
  clear h hu hm h0 h1
  rcases h2 with h2 | h2
  all_goals
    go_enter Tryz.func52, Tryz.ntmps52
    go_wp2_with fail
    refine (put64 _ (heap_alloc_new w _) (by simp) (by omega) (by decide) HM.out.1 HM.out.2).mono ?_
    rintro e w1 ⟨rfl, hb1, hg1⟩
    have hbel : Below w.heap.size w w1 := (below_alloc (Below.refl _ _) _).grown hg1 (by simp) (by rintro k hk; injection hk with hk; omega)
    obtain ⟨v, hb, ho⟩ := HH.out.move hbel
    have hsz := hbel.size
    have hfr : Fr B bp w w1.drew := (Fr.of_below hbel).drew
    have hc : w1.cell? ⟨bp, 0, none⟩ = some v := blk_cell hb 0
    have hrd : ReadsInt w1.drew .u8 (some ⟨w.heap.size, 0, none⟩) 9 [203, u / 4294967296 / 16777216, u / 4294967296 / 65536 % 256, u / 4294967296 / 256 % 256, u / 4294967296 % 256, u % 4294967296 / 16777216, u % 4294967296 / 65536 % 256, u % 4294967296 / 256 % 256, u % 4294967296 % 256] := reads9 (w := w1.drew) 203 _ _ _ _ _ _ _ _ hb1
    have HG1 := Lib.hid hg1
    have HB1 := Lib.hid hb1
    have HRD := Lib.hid hrd
    have HO := Lib.hid ho
    have HB := Lib.hid hb
    have HBE := Lib.hid hbel
    clear hg1 hb1 hrd ho hb hbel hw
    go_wp2_with fail
    go_region_law (refine step_append_ints (W := w1.drew) (B := B) rfl (.tmp 16) (.tmp 17) 42 rfl Tryz.underlying42 info5 v xs [203, u / 4294967296 / 16777216, u / 4294967296 / 65536 % 256, u / 4294967296 / 256 % 256, u / 4294967296 % 256, u % 4294967296 / 16777216, u % 4294967296 / 65536 % 256, u % 4294967296 / 256 % 256, u % 4294967296 % 256] (by simp [Act.eval]) HO.out ⟨w.heap.size, 0, none⟩ 9 9 (by simp [Act.eval]) HRD.out (by decide) (by omega) (by show B ≤ w1.heap.size; omega) ?_; intro g cap w2 hown2 hg2; have hp := blk_grown (w := w1.drew) HB.out hg2 (own_ne (w := w1.drew) HO.out HB.out (by decide)); have hcp : w2.cell? ⟨bp, 0, none⟩ = some v := blk_cell hp 0; have hfp := blk_frozen hp 0)
    all_goals
      go_end0
      exact ⟨rfl, pb_put hfr HB.out HO.out hg2 hown2⟩

theorem pk_int {B bp : Nat} {xs : List Int} (i : Int) (w : World) (h : PB w B bp xs) (hB : B ≤ w.heap.size) (hl : xs.length ≤ 1099511627776) (h0 : -9223372036854775808 ≤ i) (h1 : i < 9223372036854775808) :
    Calls Tryz.prog 52 #[.pointer (some ⟨bp, 0, none⟩), .int .i64 i] w fun e w' => e = .returned (.tuple #[]) ∧ PB w' B bp (xs ++ encInt i) ∧ Fr B bp w w' := by
  unfold encInt
  split
  · exact pk_int1 i w h hB hl (by omega) (by omega)
  · split
    · exact pk_int2 i w h hB hl (by omega) (by omega)
    · split
      · exact pk_int3 i w h hB hl (by omega) (by omega) (by omega)
      · split
        · exact pk_int4 i w h hB hl (by omega) (by omega) (by omega)
        · exact pk_int5 i w h hB hl h0 h1 (by omega)

theorem run_bits (b : Nat) (w : World) : (callFunc 74 #[.float .f64 b]).run Tryz.prog w = .ok (.value (.int .u64 b)) w := by
  rw [run_callFunc_standIn (e := Extern.MathFloatBits.float64bits) Tryz.func74 (by kernel_rfl) (by kernel_rfl) (by kernel_rfl) (by kernel_rfl)]
  rfl
theorem run_frombits (n : Int) (w : World) : (callFunc 54 #[.int .u64 n]).run Tryz.prog w = .ok (.value (.float .f64 n.toNat)) w := by
  rw [run_callFunc_standIn (e := Extern.MathFloatBits.float64frombits) Tryz.func54 (by kernel_rfl) (by kernel_rfl) (by kernel_rfl) (by kernel_rfl)]
  rfl
/-- The bytes of a float, packed. -/
def encFloat (f : Nat) : List Int :=
  [193, (f : Int) / 4294967296 / 16777216, (f : Int) / 4294967296 / 65536 % 256, (f : Int) / 4294967296 / 256 % 256, (f : Int) / 4294967296 % 256,
    (f : Int) % 4294967296 / 16777216, (f : Int) % 4294967296 / 65536 % 256, (f : Int) % 4294967296 / 256 % 256, (f : Int) % 4294967296 % 256]

set_option maxHeartbeats 1000000 in
set_option maxRecDepth 100000 in
theorem pk_float {B bp : Nat} {xs : List Int} (f : Nat) (w : World) (h : PB w B bp xs) (hB : B ≤ w.heap.size) (hl : xs.length ≤ 1099511627776) (hf : f < 18446744073709551616) :
    Calls Tryz.prog 53 #[.pointer (some ⟨bp, 0, none⟩), .float .f64 f] w fun e w' => e = .returned (.tuple #[]) ∧ PB w' B bp (xs ++ encFloat f) ∧ Fr B bp w w' := by
  have HH := Lib.hid h
  have HF := Lib.hid hf
  have hbits := fun w => run_bits f w
  clear h hf
  go_enter Tryz.func53, Tryz.ntmps53
  go_wp2_with fail
  go_region_with (go_at_call 73; refine (put64 _ (by exact heap_alloc_new w _) (by simp) (by omega) (by decide) (by omega) (by have := HF.out; omega)).mono ?_; rintro e w1 ⟨rfl, hb1, hg1⟩)
  have hbel : Below w.heap.size w w1 := (below_drew (below_alloc (Below.refl _ _) _)).grown hg1 (by simp) (by rintro k hk; injection hk with hk; omega)
  obtain ⟨v, hb, ho⟩ := HH.out.move hbel
  have hsz := hbel.size
  have hfr : Fr B bp w w1.drew := (Fr.of_below hbel).drew
  have hc : w1.cell? ⟨bp, 0, none⟩ = some v := blk_cell hb 0
  have hrd : ReadsInt w1.drew .u8 (some ⟨w.heap.size, 0, none⟩) 9 (encFloat f) := reads9 (w := w1.drew) 193 _ _ _ _ _ _ _ _ hb1
  have HRD := Lib.hid hrd
  have HO := Lib.hid ho
  have HB := Lib.hid hb
  clear hg1 hb1 hrd ho hb hbel hbits HH HF
  go_wp2_with fail
  go_region_law (refine step_append_ints (W := w1.drew) (B := B) rfl (.tmp 14) (.tmp 15) 42 rfl Tryz.underlying42 info5 v xs (encFloat f) (by simp [Act.eval]) HO.out ⟨w.heap.size, 0, none⟩ 9 9 (by simp [Act.eval]) HRD.out (by decide) (by omega) (by show B ≤ w1.heap.size; omega) ?_; intro g cap w2 hown2 hg2; have hp := blk_grown (w := w1.drew) HB.out hg2 (own_ne (w := w1.drew) HO.out HB.out (by decide)); have hcp : w2.cell? ⟨bp, 0, none⟩ = some v := blk_cell hp 0; have hfp := blk_frozen hp 0)
  all_goals
    go_end0
    exact ⟨rfl, pb_put hfr HB.out HO.out hg2 hown2⟩
end Go.Proofs.YtkogipaaioibaaaGreatDoor
