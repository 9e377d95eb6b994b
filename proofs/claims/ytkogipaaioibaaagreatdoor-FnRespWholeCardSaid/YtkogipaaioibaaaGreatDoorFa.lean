/- Floats: the table, prescale, uscale. (seat r3.ZD) Floats: the shortest digits of a float. (seat r3.ZD) Floats: shortFloat. (seat r3.ZD; printed by gen_rf3.py) Floats: the digits of a number in a buffer. (seat r3.ZD) Floats: setDigits; what fmtEFG carries. (seat r3.ZD) Floats: what fmtEFG carries. (seat r3.ZD; printed by gen_rf6.py) -/
import Derived.Test.YtkogipaaioibaaaGreatDoorCore
import Derived.Test.YtkogipaaioibaaaGreatDoorPut
import Derived.Test.YtkogipaaioibaaaGreatDoorShelf
import Derived.Test.YtkogipaaioibaaaGreatDoorPstrconvbool2uint64
import Derived.Laws.BitsLemmas
import Derived.IntWalk
import Derived.Deep.QuietTactic
import Derived.BigQuiet
import Derived.Deep.DeepCutAuto
import Derived.Deep.CutBlock
import Derived.Test.YtkogipaaioibaaaGreatDoorPstrconvskewed
import Derived.Test.YtkogipaaioibaaaGreatDoorPstrconvlog10Pow2
import Derived.Test.YtkogipaaioibaaaGreatDoorPstrconvlog2Pow10
import Derived.Test.YtkogipaaioibaaaGreatDoorPstrconvunroundednudge
import Derived.Test.YtkogipaaioibaaaGreatDoorPstrconvunroundedceil
import Derived.Test.YtkogipaaioibaaaGreatDoorPstrconvunroundedfloor
import Derived.Test.YtkogipaaioibaaaGreatDoorPstrconvunroundedround
import Derived.Lib.ItoaLen
import Derived.Deep.LoopGhost
namespace Go.Proofs.YtkogipaaioibaaaGreatDoor
set_option linter.unusedVariables false
set_option linter.unusedSimpArgs false
open Go.RowKit Go.Proofs.YtkogipaaioibaaaGreatDoorW.PrintWords

/-- The tables of the library, as far as they are wanted. -/
structure Tb (w : World) : Prop where
  p10 : ∀ wi, Below w.heap.size w wi → Lib.TabIs Tryz.prog wi "internal/strconv.uint64pow10" .u64 Lib.pow10Tab
  tab : ∀ i : Nat, i < 696 → ∃ h l : Int, 0 ≤ h ∧ h < 18446744073709551616 ∧ 0 ≤ l ∧ l < 18446744073709551616 ∧ w.cell? ⟨8, i * 2, none⟩ = some (.int .u64 h) ∧ w.cell? ⟨8, i * 2 + 1, none⟩ = some (.int .u64 l)
  lt : 8 < w.heap.size
theorem Tb.below {w w' : World} (h : Tb w) (hb : Below w.heap.size w w') : Tb w' :=
  ⟨fun wi h2 => h.p10 wi (hb.trans (h2.mono hb.size)), fun i hi => by
    obtain ⟨a, b, h1, h2, h3, h4, h5, h6⟩ := h.tab i hi
    exact ⟨a, b, h1, h2, h3, h4, pw_cell_below hb h5, pw_cell_below hb h6⟩, Nat.lt_of_lt_of_le h.lt hb.size⟩

/-- What prescale leaves. -/
def PreR (g : Nat) (s : Int) (w : World) (e : Ending) (w' : World) : Prop :=
  ∃ h l : Int, e = .returned (.tuple #[]) ∧ (0 ≤ h ∧ h < 18446744073709551616 ∧ 0 ≤ l ∧ l < 18446744073709551616) ∧ w'.heap[g]? = some (.cells #[.int .u64 h, .int .u64 l, .int .i64 s] 171 (0, 0)) ∧ w.grownBy w' (some g)
set_option maxHeartbeats 2000000 in
set_option maxRecDepth 100000 in
theorem prescale_any (g : Nat) (x y z : Value) (e p lp : Int) (w : World) (hb : w.heap[g]? = some (.cells #[x, y, z] 171 (0, 0))) (hp0 : -348 ≤ p) (hp1 : p ≤ 347) (he0 : -5000 ≤ e) (he1 : e ≤ 5000) (hl0 : -5000 ≤ lp) (hl1 : lp ≤ 5000) (ht : Tb w) (hg : 8 < g) :
    Calls Tryz.prog 125 #[.pointer (some ⟨g, 0, none⟩), .int .i64 e, .int .i64 p, .int .i64 lp] w fun en w' => PreR g (-(e + lp + 3)) w en w' := by
  obtain ⟨q, hq⟩ : ∃ q : Nat, p = (q : Int) - 348 := ⟨(p + 348).toNat, by omega⟩
  subst hq
  obtain ⟨h, l, b1, b2, b3, b4, c1, c2⟩ := ht.tab q (by omega)
  have c3 : w.cell? ⟨g, 0, none⟩ = some x := blk_cell hb 0
  have c4 : w.cell? ⟨g, 1, none⟩ = some y := blk_cell hb 1
  have c5 : w.cell? ⟨g, 2, none⟩ = some z := blk_cell hb 2
  have f0 := blk_frozen hb 0
  have f1 := blk_frozen hb 1
  have f2 := blk_frozen hb 2
  have lg := blk_lt hb
  have l8 := ht.lt
  have HB := Lib.hid hb
  have HH := Lib.hid (And.intro b1 (And.intro b2 (And.intro b3 b4)))
  have e1 : (q : Int) - 348 - -348 = (q : Int) := by omega
  have hq1 : (q : Int) < 696 := by omega
  have hq2 : q < 696 := by omega
  have hne : (8 : Nat) ≠ g := by omega
  have hne2 : g ≠ 8 := by omega
  have E1 : IntKind.i64.wrap ((q : Int) - 348 - -348) = (q : Int) := by rw [IntKind.wrap_i64]; omega
  clear hb b1 b2 b3 b4 ht hp0 hp1
  go_enter Tryz.func125, Tryz.ntmps125
  go_wp2_with fail
  go_end0
  exact ⟨h, l, rfl, HH.out, blk_put (blk_put (blk_put HB.out 0 _ rfl) 1 _ rfl) 2 _ rfl, grown_set (grown_set (grown_set (World.grownBy.refl w _) 0 _) 1 _) 2 _⟩
theorem mul_any (x y : Int) (hx0 : 0 ≤ x) (hx1 : x < 18446744073709551616) (hy0 : 0 ≤ y) (hy1 : y < 18446744073709551616) : ∃ a b : Int, ∀ w : World, Calls Tryz.prog 141 #[.int .u64 x, .int .u64 y] w fun e w' => e = .returned (.tuple #[.int .u64 a, .int .u64 b]) ∧ w' = w := by
  obtain ⟨n, rfl⟩ : ∃ n : Nat, x = n := ⟨x.toNat, by omega⟩
  obtain ⟨m, rfl⟩ : ∃ m : Nat, y = m := ⟨y.toNat, by omega⟩
  exact ⟨_, _, fun w => Tryz.bits_Mul64 n m (by omega) (by omega) w⟩
theorem bool2_any (b : Bool) (w : World) : Calls Tryz.prog 142 #[.bool b] w fun e w' => e = .returned (.int .u64 (if b = true then 1 else 0)) ∧ Drawn0 w w' :=
  PAll.strconv_bool2_uint64.calls b _ w (by unfold PAll.strconv_bool2_uint64.f; cases b <;> rfl)
theorem bool2_t (w : World) : Calls Tryz.prog 142 #[.bool true] w fun e w' => e = .returned (.int .u64 1) ∧ Drawn0 w w' := bool2_any true w
theorem bool2_f (w : World) : Calls Tryz.prog 142 #[.bool false] w fun e w' => e = .returned (.int .u64 0) ∧ Drawn0 w w' := bool2_any false w
/-- What uscale answers. -/
def UsR (w : World) (e : Ending) (w' : World) : Prop := ∃ u : Int, e = .returned (.int .u64 u) ∧ Drawn0 w w'
set_option maxHeartbeats 2000000 in
set_option maxRecDepth 100000 in
theorem uscale_any (x : Int) (g : Nat) (h l s : Int) (w : World) (hx0 : 0 ≤ x) (hx1 : x < 18446744073709551616) (hh : 0 ≤ h ∧ h < 18446744073709551616 ∧ 0 ≤ l ∧ l < 18446744073709551616) (hb : w.heap[g]? = some (.cells #[.int .u64 h, .int .u64 l, .int .i64 s] 171 (0, 0)))
    (hs0 : 0 ≤ s) (hs1 : s < 4096) :
    Calls Tryz.prog 127 #[.int .u64 x, .pointer (some ⟨g, 0, none⟩)] w fun e w' => UsR w e w' := by
  obtain ⟨a1, b1, HM1⟩ := mul_any x h hx0 hx1 hh.1 hh.2.1
  obtain ⟨a2, b2, HM2⟩ := mul_any x l hx0 hx1 hh.2.2.1 hh.2.2.2
  have H1 := Lib.hid HM1
  have H2 := Lib.hid HM2
  have c0 : w.cell? ⟨g, 0, none⟩ = some (.int .u64 h) := blk_cell hb 0
  have c1 : w.cell? ⟨g, 1, none⟩ = some (.int .u64 l) := blk_cell hb 1
  have c2 : w.cell? ⟨g, 2, none⟩ = some (.int .i64 s) := blk_cell hb 2
  obtain ⟨sh, hsh⟩ : ∃ sh, s % 64 = sh := ⟨_, rfl⟩
  have hand : bits .and .i64 s 63 = sh := by
    rw [← hsh]
    exact bits_mask .i64 12 (by decide) (fun n h0 h1 => by rw [IntKind.wrap_i64]; have : (2 : Int) ^ 12 = 4096 := by decide
                                                           omega) 6 (by decide) s hs0 (by simpa using hs1)
  have hb0 : 0 ≤ sh := by omega
  have hb1 : sh ≤ 63 := by omega
  have p8 : decide (0 ≤ sh) = true := decide_eq_true hb0
  clear HM1 HM2 hx0 hx1 hh hb hsh
  all_goals
   go_enter Tryz.func127, Tryz.ntmps127
   go_wp2_with fail
   refine (H1.out _).mono ?_
   rintro e w1 ⟨rfl, rfl⟩
   go_wp2_with fail
   · go_ret
     exact ⟨_, rfl, Drawn0.refl _⟩
   · refine (H2.out _).mono ?_
     rintro e w2 ⟨rfl, rfl⟩
     go_wp2_with fail
     refine (bool2_any _ _).mono ?_
     rintro e w3 ⟨rfl, hd⟩
     have HD := Lib.hid hd
     clear hd
     go_wp2_with fail
     all_goals go_quiet ((go_at_call 142; exact Calls.quiet_of ((bool2_any _ _).mono (fun _ _ ⟨he, hd⟩ => ⟨he, hd.out⟩))))
     all_goals go_wp2_with fail
     all_goals go_ret
     all_goals
       obtain ⟨nd, rfl⟩ := HD.out
       exact ⟨_, rfl, ((Drawn0.refl _).step nd).step _⟩
end Go.Proofs.YtkogipaaioibaaaGreatDoor

namespace Go.Proofs.YtkogipaaioibaaaGreatDoor
set_option linter.unusedVariables false
set_option linter.unusedSimpArgs false
open Go.RowKit Go.Proofs.YtkogipaaioibaaaGreatDoorW.PrintWords

theorem u64r (x : Int) : 0 ≤ IntKind.u64.wrap x ∧ IntKind.u64.wrap x < 18446744073709551616 := by rw [IntKind.wrap_u64]; omega
/-- A number that fits four times into a uint64. -/
def Q64 (r : Int) : Prop := r < 4611686018427387904
def NumR (w : World) (e : Ending) (w' : World) : Prop := ∃ r : Int, 0 ≤ r ∧ Q64 r ∧ e = .returned (.int .u64 r) ∧ Drawn0 w w'
theorem ceil_any (x : Int) (w : World) : Calls Tryz.prog 129 #[.int .u64 x] w fun e w' => NumR w e w' :=
  (PAll.strconv_unrounded_ceil.calls x _ w rfl).mono fun e w' ⟨h1, h2⟩ => ⟨_, by have := u64r (x + 3); omega, by have := u64r (x + 3); unfold Q64; omega, h1, h2⟩
theorem floor_any (x : Int) (w : World) : Calls Tryz.prog 130 #[.int .u64 x] w fun e w' => NumR w e w' :=
  (PAll.strconv_unrounded_floor.calls x _ w rfl).mono fun e w' ⟨h1, h2⟩ => ⟨_, by have := u64r (x + 0); omega, by have := u64r (x + 0); unfold Q64; omega, h1, h2⟩
theorem round_any (x : Int) (w : World) : Calls Tryz.prog 131 #[.int .u64 x] w fun e w' => NumR w e w' :=
  (PAll.strconv_unrounded_round.calls x _ w rfl).mono fun e w' ⟨h1, h2⟩ => ⟨_, by have := u64r ((IntKind.u64.wrap (x + 1)) + (Go.bits .and .u64 (x / 4) 1)); omega, by have := u64r ((IntKind.u64.wrap (x + 1)) + (Go.bits .and .u64 (x / 4) 1)); unfold Q64; omega, h1, h2⟩
theorem nudge_any (x y : Int) (w : World) : Calls Tryz.prog 128 #[.int .u64 x, .int .i64 y] w fun e w' => UsR w e w' :=
  (PAll.strconv_unrounded_nudge.calls x y _ w rfl).mono fun e w' ⟨h1, h2⟩ => ⟨_, h1, h2⟩
theorem log2_any (x : Int) (w : World) (h0 : -5000 ≤ x) (h1 : x ≤ 5000) : Calls Tryz.prog 126 #[.int .i64 x] w fun e w' => e = .returned (.int .i64 (x * 108853 / 32768)) ∧ Drawn0 w w' :=
  PAll.strconv_log2Pow10.calls x _ w (by unfold PAll.strconv_log2Pow10.f; rw [IntWalk.wrap64_in _ ⟨by omega, by omega⟩])
theorem log10_any (x : Int) (w : World) (h0 : -5000 ≤ x) (h1 : x ≤ 5000) : Calls Tryz.prog 92 #[.int .i64 x] w fun e w' => e = .returned (.int .i64 (x * 78913 / 262144)) ∧ Drawn0 w w' :=
  PAll.strconv_log10Pow2.calls x _ w (by unfold PAll.strconv_log10Pow2.f; rw [IntWalk.wrap64_in _ ⟨by omega, by omega⟩])
theorem skewed_any (x : Int) (w : World) (h0 : -5000 ≤ x) (h1 : x ≤ 5000) : Calls Tryz.prog 124 #[.int .i64 x] w fun e w' => e = .returned (.int .i64 ((x * 631305 - 261663) / 2097152)) ∧ Drawn0 w w' :=
  PAll.strconv_skewed.calls x _ w (by unfold PAll.strconv_skewed.f; rw [IntWalk.wrap64_in (x * 631305) ⟨by omega, by omega⟩, IntWalk.wrap64_in _ ⟨by omega, by omega⟩])
/-- What shortFloat answers. -/
def SfR (w : World) (e : Ending) (w' : World) : Prop :=
  ∃ d p : Int, e = .returned (.tuple #[.int .u64 d, .int .i64 p]) ∧ 0 ≤ d ∧ Q64 d ∧ -400 ≤ p ∧ p ≤ 400 ∧ Below w.heap.size w w'
/-- What is carried through shortFloat behind prescale. -/
structure SfS (w wc : World) (h l s : Int) : Prop where
  box : wc.heap[w.heap.size]? = some (.cells #[.int .u64 h, .int .u64 l, .int .i64 s] 171 (0, 0))
  r : 0 ≤ h ∧ h < 18446744073709551616 ∧ 0 ≤ l ∧ l < 18446744073709551616
  s0 : 0 ≤ s
  s1 : s < 4096
  bel : Below w.heap.size w wc
theorem SfS.draw {w wc w1 : World} {h l s : Int} (k : SfS w wc h l s) (hd : Drawn0 wc w1) : SfS w w1 h l s := by
  obtain ⟨nd, rfl⟩ := hd
  exact ⟨k.box, k.r, k.s0, k.s1, pw_below_drewN k.bel nd⟩
theorem SfS.us {w wc : World} {h l s : Int} (k : SfS w wc h l s) (x : Int) (hx0 : 0 ≤ x) (hx1 : x < 18446744073709551616) : Calls Tryz.prog 127 #[.int .u64 x, .pointer (some ⟨w.heap.size, 0, none⟩)] wc fun e w' => UsR wc e w' :=
  uscale_any x w.heap.size h l s wc hx0 hx1 k.r k.box k.s0 k.s1
theorem SfS.pre {w wc : World} {e p : Int} (hb : wc.heap[w.heap.size]? = some (.cells #[.int .u64 0, .int .u64 0, .int .i64 0] 171 (0, 0))) (hbel : Below w.heap.size w wc) (ht : Tb w) (he0 : -2000 ≤ e) (he1 : e ≤ 2000) (hp0 : -348 ≤ p) (hp1 : p ≤ 347)
    (hs0 : 0 ≤ -(e + p * 108853 / 32768 + 3)) :
    Calls Tryz.prog 125 #[.pointer (some ⟨w.heap.size, 0, none⟩), .int .i64 e, .int .i64 p, .int .i64 (p * 108853 / 32768)] wc fun en w' => ∃ h l, en = .returned (.tuple #[]) ∧ SfS w w' h l (-(e + p * 108853 / 32768 + 3)) :=
  (prescale_any w.heap.size _ _ _ e p (p * 108853 / 32768) wc hb hp0 hp1 (by omega) (by omega) (by omega) (by omega) (ht.below hbel) ht.lt).mono fun en w' ⟨h, l, h1, h2, h3, h4⟩ =>
    ⟨h, l, h1, h3, h2, hs0, by omega, hbel.grown h4 hbel.size (by rintro k hk; injection hk with hk; omega)⟩
end Go.Proofs.YtkogipaaioibaaaGreatDoor

namespace Go.Proofs.YtkogipaaioibaaaGreatDoor
set_option linter.unusedVariables false
set_option linter.unusedSimpArgs false
open Go.RowKit Go.Proofs.YtkogipaaioibaaaGreatDoorW.PrintWords

theorem q10 {x : Int} (h0 : 0 ≤ x) (h1 : Q64 x) : 0 ≤ IntKind.u64.wrap (x.tdiv 10) ∧ Q64 (IntKind.u64.wrap (x.tdiv 10)) := by
  unfold Q64 at *
  rw [IntKind.wrap_u64, Int.tdiv_eq_ediv_of_nonneg h0]
  omega
set_option maxHeartbeats 4000000 in
set_option maxRecDepth 100000 in
theorem sf_a (m e : Int) (w : World) (hm0 : 0 ≤ m) (hm1 : m < 18446744073709551616) (he0 : -1085 < e) (he1 : e ≤ 960) (hmt : (m == 9223372036854775808) = true) (ht : Tb w) :
    Calls Tryz.prog 118 #[.int .u64 m, .int .i64 e] w fun en w' => SfR w en w' := by
  have HM := Lib.hid (And.intro hm0 hm1)
  obtain ⟨q, hq⟩ : ∃ q, ((e + 11) * 631305 - 261663) / 2097152 = q := ⟨_, rfl⟩
  have hq0 : -330 ≤ q := by omega
  have hq1 : q ≤ 300 := by omega
  have hs : 0 ≤ -(e + (-q) * 108853 / 32768 + 3) := by omega
  have HL : Hid (∀ (x : Int) (w : World), x = e + 11 → Calls Tryz.prog 124 #[.int .i64 x] w fun e w' => e = .returned (.int .i64 q) ∧ Drawn0 w w') := Lib.hid (by
    intro x w hx
    subst hx
    have := skewed_any (e + 11) w (by omega) (by omega)
    rwa [hq] at this)
  have HPre := Lib.hid (fun (wc : World) hb hbel => SfS.pre (w := w) (wc := wc) (e := e) (p := -q) hb hbel ht (by omega) (by omega) (by omega) (by omega) hs)
  have HLog := Lib.hid (fun (w : World) => log2_any (-q) w (by omega) (by omega))
  clear hm0 hm1 hq hs ht
  go_enter Tryz.func118, Tryz.ntmps118
  go_wp2_with fail
  refine (HL.out _ _ (by omega)).mono ?_
  rintro en w1 ⟨rfl, ⟨n1, rfl⟩⟩
  go_wp2_with fail
  refine (HLog.out _).mono ?_
  rintro en w2 ⟨rfl, ⟨n2, rfl⟩⟩
  go_wp2_with fail
  refine (HPre.out _ (by have h := heap_alloc_new (w.drewN n1) (.cells #[.int .u64 0, .int .u64 0, .int .i64 0] 171); simpa using h) (by first | exact pw_below_drewN (below_alloc (pw_below_drewN (Below.refl _ _) _) _) _ | exact pw_below_drewN (below_alloc (Below.refl _ _) _) _)).mono ?_
  rintro en w3 ⟨h, l, rfl, hS⟩
  have HS := Lib.hid hS
  clear hS HPre HLog HL
  generalize -(e + -q * 108853 / 32768 + 3) = sc at *
  go_wp2_with fail
  refine (HS.out.us _ (by first | exact (u64r _).1 | omega) (by first | exact (u64r _).2 | omega)).mono ?_
  rintro en w4 ⟨u1, rfl, hd⟩
  have HS1 := Lib.hid (HS.out.draw hd)
  clear hd HS
  go_wp2_with fail
  refine (nudge_any _ _ _).mono ?_
  rintro en w5 ⟨u2, rfl, hd⟩
  have HS2 := Lib.hid (HS1.out.draw hd)
  clear hd HS1
  go_wp2_with fail
  refine (ceil_any _ _).mono ?_
  rintro en w6 ⟨dmin, hdm0, hdm1, rfl, hd⟩
  have HS3 := Lib.hid (HS2.out.draw hd)
  have HDM := Lib.hid hdm1
  clear hd HS2 hdm1
  go_wp2_with fail
  refine (HS3.out.us _ (by first | exact (u64r _).1 | omega) (by first | exact (u64r _).2 | omega)).mono ?_
  rintro en w7 ⟨u3, rfl, hd⟩
  have HS4 := Lib.hid (HS3.out.draw hd)
  clear hd HS3
  go_wp2_with fail
  refine (nudge_any _ _ _).mono ?_
  rintro en w8 ⟨u4, rfl, hd⟩
  have HS5 := Lib.hid (HS4.out.draw hd)
  clear hd HS4
  go_wp2_with fail
  refine (floor_any _ _).mono ?_
  rintro en w9 ⟨dmax, hdx0, hdx1, rfl, hd⟩
  have HS6 := Lib.hid (HS5.out.draw hd)
  have HDX := Lib.hid hdx1
  clear hd HS5 hdx1
  go_wp2_with fail
  · go_ret2
    exact ⟨_, _, rfl, (q10 hdx0 HDX.out).1, (q10 hdx0 HDX.out).2, by omega, by omega, HS6.out.bel⟩
  · refine (HS6.out.us _ HM.out.1 HM.out.2).mono ?_
    rintro en w10 ⟨u5, rfl, hd⟩
    have HS7 := Lib.hid (HS6.out.draw hd)
    clear hd HS6
    go_wp2_with fail
    refine (round_any _ _).mono ?_
    rintro en w11 ⟨d, hd0, hd1, rfl, hd⟩
    have HS8 := Lib.hid (HS7.out.draw hd)
    have HDD := Lib.hid hd1
    clear hd HS7 hd1
    go_wp2_with fail
    go_ret2
    exact ⟨_, _, rfl, hd0, HDD.out, by omega, by omega, HS8.out.bel⟩
  · go_ret2
    exact ⟨_, _, rfl, hdm0, HDM.out, by omega, by omega, HS6.out.bel⟩
set_option maxHeartbeats 4000000 in
set_option maxRecDepth 100000 in
theorem sf_b1 (m e : Int) (w : World) (hm0 : 0 ≤ m) (hm1 : m < 18446744073709551616) (he0 : -1085 ≤ e) (he1 : e ≤ 960) (hmt : (m == 9223372036854775808) = false) (ht : Tb w) :
    Calls Tryz.prog 118 #[.int .u64 m, .int .i64 e] w fun en w' => SfR w en w' := by
  have HM := Lib.hid (And.intro hm0 hm1)
  obtain ⟨q, hq⟩ : ∃ q, (e + 11) * 78913 / 262144 = q := ⟨_, rfl⟩
  have hq0 : -330 ≤ q := by omega
  have hq1 : q ≤ 300 := by omega
  have hs : 0 ≤ -(e + (-q) * 108853 / 32768 + 3) := by omega
  have HL : Hid (∀ (x : Int) (w : World), x = e + 11 → Calls Tryz.prog 92 #[.int .i64 x] w fun e w' => e = .returned (.int .i64 q) ∧ Drawn0 w w') := Lib.hid (by
    intro x w hx
    subst hx
    have := log10_any (e + 11) w (by omega) (by omega)
    rwa [hq] at this)
  have HPre := Lib.hid (fun (wc : World) hb hbel => SfS.pre (w := w) (wc := wc) (e := e) (p := -q) hb hbel ht (by omega) (by omega) (by omega) (by omega) hs)
  have HLog := Lib.hid (fun (w : World) => log2_any (-q) w (by omega) (by omega))
  clear hm0 hm1 hq hs ht
  go_enter Tryz.func118, Tryz.ntmps118
  go_wp2_with fail
  refine (HL.out _ _ (by omega)).mono ?_
  rintro en w1 ⟨rfl, ⟨n1, rfl⟩⟩
  go_wp2_with fail
  refine (HLog.out _).mono ?_
  rintro en w2 ⟨rfl, ⟨n2, rfl⟩⟩
  go_wp2_with fail
  refine (HPre.out _ (by have h := heap_alloc_new (w.drewN n1) (.cells #[.int .u64 0, .int .u64 0, .int .i64 0] 171); simpa using h) (by first | exact pw_below_drewN (below_alloc (pw_below_drewN (Below.refl _ _) _) _) _ | exact pw_below_drewN (below_alloc (Below.refl _ _) _) _)).mono ?_
  rintro en w3 ⟨h, l, rfl, hS⟩
  have HS := Lib.hid hS
  clear hS HPre HLog HL
  generalize -(e + -q * 108853 / 32768 + 3) = sc at *
  go_wp2_with fail
  refine (HS.out.us _ (by first | exact (u64r _).1 | omega) (by first | exact (u64r _).2 | omega)).mono ?_
  rintro en w4 ⟨u1, rfl, hd⟩
  have HS1 := Lib.hid (HS.out.draw hd)
  clear hd HS
  go_wp2_with fail
  refine (nudge_any _ _ _).mono ?_
  rintro en w5 ⟨u2, rfl, hd⟩
  have HS2 := Lib.hid (HS1.out.draw hd)
  clear hd HS1
  go_wp2_with fail
  refine (ceil_any _ _).mono ?_
  rintro en w6 ⟨dmin, hdm0, hdm1, rfl, hd⟩
  have HS3 := Lib.hid (HS2.out.draw hd)
  have HDM := Lib.hid hdm1
  clear hd HS2 hdm1
  go_wp2_with fail
  refine (HS3.out.us _ (by first | exact (u64r _).1 | omega) (by first | exact (u64r _).2 | omega)).mono ?_
  rintro en w7 ⟨u3, rfl, hd⟩
  have HS4 := Lib.hid (HS3.out.draw hd)
  clear hd HS3
  go_wp2_with fail
  refine (nudge_any _ _ _).mono ?_
  rintro en w8 ⟨u4, rfl, hd⟩
  have HS5 := Lib.hid (HS4.out.draw hd)
  clear hd HS4
  go_wp2_with fail
  refine (floor_any _ _).mono ?_
  rintro en w9 ⟨dmax, hdx0, hdx1, rfl, hd⟩
  have HS6 := Lib.hid (HS5.out.draw hd)
  have HDX := Lib.hid hdx1
  clear hd HS5 hdx1
  go_wp2_with fail
  · go_ret2
    exact ⟨_, _, rfl, (q10 hdx0 HDX.out).1, (q10 hdx0 HDX.out).2, by omega, by omega, HS6.out.bel⟩
  · refine (HS6.out.us _ HM.out.1 HM.out.2).mono ?_
    rintro en w10 ⟨u5, rfl, hd⟩
    have HS7 := Lib.hid (HS6.out.draw hd)
    clear hd HS6
    go_wp2_with fail
    refine (round_any _ _).mono ?_
    rintro en w11 ⟨d, hd0, hd1, rfl, hd⟩
    have HS8 := Lib.hid (HS7.out.draw hd)
    have HDD := Lib.hid hd1
    clear hd HS7 hd1
    go_wp2_with fail
    go_ret2
    exact ⟨_, _, rfl, hd0, HDD.out, by omega, by omega, HS8.out.bel⟩
  · go_ret2
    exact ⟨_, _, rfl, hdm0, HDM.out, by omega, by omega, HS6.out.bel⟩
set_option maxHeartbeats 4000000 in
set_option maxRecDepth 100000 in
theorem sf_b2 (m e : Int) (w : World) (hm0 : 0 ≤ m) (hm1 : m < 18446744073709551616) (he0 : e = -1085) (hmt : (m == 9223372036854775808) = true) (ht : Tb w) :
    Calls Tryz.prog 118 #[.int .u64 m, .int .i64 e] w fun en w' => SfR w en w' := by
  subst he0
  have HM := Lib.hid (And.intro hm0 hm1)
  obtain ⟨q, hq⟩ : ∃ q, (-1085 + 11) * 78913 / 262144 = q := ⟨_, rfl⟩
  have hq0 : -330 ≤ q := by omega
  have hq1 : q ≤ 300 := by omega
  have hs : 0 ≤ -(-1085 + (-q) * 108853 / 32768 + 3) := by omega
  have HL : Hid (∀ (x : Int) (w : World), x = -1085 + 11 → Calls Tryz.prog 92 #[.int .i64 x] w fun e w' => e = .returned (.int .i64 q) ∧ Drawn0 w w') := Lib.hid (by
    intro x w hx
    subst hx
    have := log10_any (-1085 + 11) w (by omega) (by omega)
    rwa [hq] at this)
  have HPre := Lib.hid (fun (wc : World) hb hbel => SfS.pre (w := w) (wc := wc) (e := -1085) (p := -q) hb hbel ht (by omega) (by omega) (by omega) (by omega) hs)
  have HLog := Lib.hid (fun (w : World) => log2_any (-q) w (by omega) (by omega))
  clear hm0 hm1 hq hs ht
  go_enter Tryz.func118, Tryz.ntmps118
  go_wp2_with fail
  refine (HL.out _ _ (by omega)).mono ?_
  rintro en w1 ⟨rfl, ⟨n1, rfl⟩⟩
  go_wp2_with fail
  refine (HLog.out _).mono ?_
  rintro en w2 ⟨rfl, ⟨n2, rfl⟩⟩
  go_wp2_with fail
  refine (HPre.out _ (by have h := heap_alloc_new (w.drewN n1) (.cells #[.int .u64 0, .int .u64 0, .int .i64 0] 171); simpa using h) (by first | exact pw_below_drewN (below_alloc (pw_below_drewN (Below.refl _ _) _) _) _ | exact pw_below_drewN (below_alloc (Below.refl _ _) _) _)).mono ?_
  rintro en w3 ⟨h, l, rfl, hS⟩
  have HS := Lib.hid hS
  clear hS HPre HLog HL
  generalize -(-1085 + -q * 108853 / 32768 + 3) = sc at *
  go_wp2_with fail
  refine (HS.out.us _ (by first | exact (u64r _).1 | omega) (by first | exact (u64r _).2 | omega)).mono ?_
  rintro en w4 ⟨u1, rfl, hd⟩
  have HS1 := Lib.hid (HS.out.draw hd)
  clear hd HS
  go_wp2_with fail
  refine (nudge_any _ _ _).mono ?_
  rintro en w5 ⟨u2, rfl, hd⟩
  have HS2 := Lib.hid (HS1.out.draw hd)
  clear hd HS1
  go_wp2_with fail
  refine (ceil_any _ _).mono ?_
  rintro en w6 ⟨dmin, hdm0, hdm1, rfl, hd⟩
  have HS3 := Lib.hid (HS2.out.draw hd)
  have HDM := Lib.hid hdm1
  clear hd HS2 hdm1
  go_wp2_with fail
  refine (HS3.out.us _ (by first | exact (u64r _).1 | omega) (by first | exact (u64r _).2 | omega)).mono ?_
  rintro en w7 ⟨u3, rfl, hd⟩
  have HS4 := Lib.hid (HS3.out.draw hd)
  clear hd HS3
  go_wp2_with fail
  refine (nudge_any _ _ _).mono ?_
  rintro en w8 ⟨u4, rfl, hd⟩
  have HS5 := Lib.hid (HS4.out.draw hd)
  clear hd HS4
  go_wp2_with fail
  refine (floor_any _ _).mono ?_
  rintro en w9 ⟨dmax, hdx0, hdx1, rfl, hd⟩
  have HS6 := Lib.hid (HS5.out.draw hd)
  have HDX := Lib.hid hdx1
  clear hd HS5 hdx1
  go_wp2_with fail
  · go_ret2
    exact ⟨_, _, rfl, (q10 hdx0 HDX.out).1, (q10 hdx0 HDX.out).2, by omega, by omega, HS6.out.bel⟩
  · refine (HS6.out.us _ HM.out.1 HM.out.2).mono ?_
    rintro en w10 ⟨u5, rfl, hd⟩
    have HS7 := Lib.hid (HS6.out.draw hd)
    clear hd HS6
    go_wp2_with fail
    refine (round_any _ _).mono ?_
    rintro en w11 ⟨d, hd0, hd1, rfl, hd⟩
    have HS8 := Lib.hid (HS7.out.draw hd)
    have HDD := Lib.hid hd1
    clear hd HS7 hd1
    go_wp2_with fail
    go_ret2
    exact ⟨_, _, rfl, hd0, HDD.out, by omega, by omega, HS8.out.bel⟩
  · go_ret2
    exact ⟨_, _, rfl, hdm0, HDM.out, by omega, by omega, HS6.out.bel⟩
set_option maxHeartbeats 4000000 in
set_option maxRecDepth 100000 in
theorem sf_c1 (m e : Int) (w : World) (hm0 : 0 ≤ m) (hm1 : m < 18446744073709551616) (he0 : e < -1085) (he1 : -1137 ≤ e) (hmt : (m == 9223372036854775808) = false) (ht : Tb w) :
    Calls Tryz.prog 118 #[.int .u64 m, .int .i64 e] w fun en w' => SfR w en w' := by
  have HM := Lib.hid (And.intro hm0 hm1)
  obtain ⟨q, hq⟩ : ∃ q, (-1074 : Int) * 78913 / 262144 = q := ⟨_, rfl⟩
  have hq0 : -330 ≤ q := by omega
  have hq1 : q ≤ 300 := by omega
  have hs : 0 ≤ -(e + (-q) * 108853 / 32768 + 3) := by omega
  have HL : Hid (∀ (x : Int) (w : World), x = -1074 → Calls Tryz.prog 92 #[.int .i64 x] w fun e w' => e = .returned (.int .i64 q) ∧ Drawn0 w w') := Lib.hid (by
    intro x w hx
    subst hx
    have := log10_any (-1074) w (by omega) (by omega)
    rwa [hq] at this)
  have HPre := Lib.hid (fun (wc : World) hb hbel => SfS.pre (w := w) (wc := wc) (e := e) (p := -q) hb hbel ht (by omega) (by omega) (by omega) (by omega) hs)
  have HLog := Lib.hid (fun (w : World) => log2_any (-q) w (by omega) (by omega))
  clear hm0 hm1 hq hs ht
  go_enter Tryz.func118, Tryz.ntmps118
  go_wp2_with fail
  refine (HL.out _ _ (by omega)).mono ?_
  rintro en w1 ⟨rfl, ⟨n1, rfl⟩⟩
  go_wp2_with fail
  refine (HLog.out _).mono ?_
  rintro en w2 ⟨rfl, ⟨n2, rfl⟩⟩
  go_wp2_with fail
  refine (HPre.out _ (by have h := heap_alloc_new (w.drewN n1) (.cells #[.int .u64 0, .int .u64 0, .int .i64 0] 171); simpa using h) (by first | exact pw_below_drewN (below_alloc (pw_below_drewN (Below.refl _ _) _) _) _ | exact pw_below_drewN (below_alloc (Below.refl _ _) _) _)).mono ?_
  rintro en w3 ⟨h, l, rfl, hS⟩
  have HS := Lib.hid hS
  clear hS HPre HLog HL
  generalize -(e + -q * 108853 / 32768 + 3) = sc at *
  go_wp2_with fail
  refine (HS.out.us _ (by first | exact (u64r _).1 | omega) (by first | exact (u64r _).2 | omega)).mono ?_
  rintro en w4 ⟨u1, rfl, hd⟩
  have HS1 := Lib.hid (HS.out.draw hd)
  clear hd HS
  go_wp2_with fail
  refine (nudge_any _ _ _).mono ?_
  rintro en w5 ⟨u2, rfl, hd⟩
  have HS2 := Lib.hid (HS1.out.draw hd)
  clear hd HS1
  go_wp2_with fail
  refine (ceil_any _ _).mono ?_
  rintro en w6 ⟨dmin, hdm0, hdm1, rfl, hd⟩
  have HS3 := Lib.hid (HS2.out.draw hd)
  have HDM := Lib.hid hdm1
  clear hd HS2 hdm1
  go_wp2_with fail
  refine (HS3.out.us _ (by first | exact (u64r _).1 | omega) (by first | exact (u64r _).2 | omega)).mono ?_
  rintro en w7 ⟨u3, rfl, hd⟩
  have HS4 := Lib.hid (HS3.out.draw hd)
  clear hd HS3
  go_wp2_with fail
  refine (nudge_any _ _ _).mono ?_
  rintro en w8 ⟨u4, rfl, hd⟩
  have HS5 := Lib.hid (HS4.out.draw hd)
  clear hd HS4
  go_wp2_with fail
  refine (floor_any _ _).mono ?_
  rintro en w9 ⟨dmax, hdx0, hdx1, rfl, hd⟩
  have HS6 := Lib.hid (HS5.out.draw hd)
  have HDX := Lib.hid hdx1
  clear hd HS5 hdx1
  go_wp2_with fail
  · go_ret2
    exact ⟨_, _, rfl, (q10 hdx0 HDX.out).1, (q10 hdx0 HDX.out).2, by omega, by omega, HS6.out.bel⟩
  · refine (HS6.out.us _ HM.out.1 HM.out.2).mono ?_
    rintro en w10 ⟨u5, rfl, hd⟩
    have HS7 := Lib.hid (HS6.out.draw hd)
    clear hd HS6
    go_wp2_with fail
    refine (round_any _ _).mono ?_
    rintro en w11 ⟨d, hd0, hd1, rfl, hd⟩
    have HS8 := Lib.hid (HS7.out.draw hd)
    have HDD := Lib.hid hd1
    clear hd HS7 hd1
    go_wp2_with fail
    go_ret2
    exact ⟨_, _, rfl, hd0, HDD.out, by omega, by omega, HS8.out.bel⟩
  · go_ret2
    exact ⟨_, _, rfl, hdm0, HDM.out, by omega, by omega, HS6.out.bel⟩
set_option maxHeartbeats 4000000 in
set_option maxRecDepth 100000 in
theorem sf_c2 (m e : Int) (w : World) (hm0 : 0 ≤ m) (hm1 : m < 18446744073709551616) (he0 : e < -1085) (he1 : -1137 ≤ e) (hmt : (m == 9223372036854775808) = true) (ht : Tb w) :
    Calls Tryz.prog 118 #[.int .u64 m, .int .i64 e] w fun en w' => SfR w en w' := by
  have HM := Lib.hid (And.intro hm0 hm1)
  obtain ⟨q, hq⟩ : ∃ q, (-1074 : Int) * 78913 / 262144 = q := ⟨_, rfl⟩
  have hq0 : -330 ≤ q := by omega
  have hq1 : q ≤ 300 := by omega
  have hs : 0 ≤ -(e + (-q) * 108853 / 32768 + 3) := by omega
  have HL : Hid (∀ (x : Int) (w : World), x = -1074 → Calls Tryz.prog 92 #[.int .i64 x] w fun e w' => e = .returned (.int .i64 q) ∧ Drawn0 w w') := Lib.hid (by
    intro x w hx
    subst hx
    have := log10_any (-1074) w (by omega) (by omega)
    rwa [hq] at this)
  have HPre := Lib.hid (fun (wc : World) hb hbel => SfS.pre (w := w) (wc := wc) (e := e) (p := -q) hb hbel ht (by omega) (by omega) (by omega) (by omega) hs)
  have HLog := Lib.hid (fun (w : World) => log2_any (-q) w (by omega) (by omega))
  clear hm0 hm1 hq hs ht
  go_enter Tryz.func118, Tryz.ntmps118
  go_wp2_with fail
  refine (HL.out _ _ (by omega)).mono ?_
  rintro en w1 ⟨rfl, ⟨n1, rfl⟩⟩
  go_wp2_with fail
  refine (HLog.out _).mono ?_
  rintro en w2 ⟨rfl, ⟨n2, rfl⟩⟩
  go_wp2_with fail
  refine (HPre.out _ (by have h := heap_alloc_new (w.drewN n1) (.cells #[.int .u64 0, .int .u64 0, .int .i64 0] 171); simpa using h) (by first | exact pw_below_drewN (below_alloc (pw_below_drewN (Below.refl _ _) _) _) _ | exact pw_below_drewN (below_alloc (Below.refl _ _) _) _)).mono ?_
  rintro en w3 ⟨h, l, rfl, hS⟩
  have HS := Lib.hid hS
  clear hS HPre HLog HL
  generalize -(e + -q * 108853 / 32768 + 3) = sc at *
  go_wp2_with fail
  refine (HS.out.us _ (by first | exact (u64r _).1 | omega) (by first | exact (u64r _).2 | omega)).mono ?_
  rintro en w4 ⟨u1, rfl, hd⟩
  have HS1 := Lib.hid (HS.out.draw hd)
  clear hd HS
  go_wp2_with fail
  refine (nudge_any _ _ _).mono ?_
  rintro en w5 ⟨u2, rfl, hd⟩
  have HS2 := Lib.hid (HS1.out.draw hd)
  clear hd HS1
  go_wp2_with fail
  refine (ceil_any _ _).mono ?_
  rintro en w6 ⟨dmin, hdm0, hdm1, rfl, hd⟩
  have HS3 := Lib.hid (HS2.out.draw hd)
  have HDM := Lib.hid hdm1
  clear hd HS2 hdm1
  go_wp2_with fail
  refine (HS3.out.us _ (by first | exact (u64r _).1 | omega) (by first | exact (u64r _).2 | omega)).mono ?_
  rintro en w7 ⟨u3, rfl, hd⟩
  have HS4 := Lib.hid (HS3.out.draw hd)
  clear hd HS3
  go_wp2_with fail
  refine (nudge_any _ _ _).mono ?_
  rintro en w8 ⟨u4, rfl, hd⟩
  have HS5 := Lib.hid (HS4.out.draw hd)
  clear hd HS4
  go_wp2_with fail
  refine (floor_any _ _).mono ?_
  rintro en w9 ⟨dmax, hdx0, hdx1, rfl, hd⟩
  have HS6 := Lib.hid (HS5.out.draw hd)
  have HDX := Lib.hid hdx1
  clear hd HS5 hdx1
  go_wp2_with fail
  · go_ret2
    exact ⟨_, _, rfl, (q10 hdx0 HDX.out).1, (q10 hdx0 HDX.out).2, by omega, by omega, HS6.out.bel⟩
  · refine (HS6.out.us _ HM.out.1 HM.out.2).mono ?_
    rintro en w10 ⟨u5, rfl, hd⟩
    have HS7 := Lib.hid (HS6.out.draw hd)
    clear hd HS6
    go_wp2_with fail
    refine (round_any _ _).mono ?_
    rintro en w11 ⟨d, hd0, hd1, rfl, hd⟩
    have HS8 := Lib.hid (HS7.out.draw hd)
    have HDD := Lib.hid hd1
    clear hd HS7 hd1
    go_wp2_with fail
    go_ret2
    exact ⟨_, _, rfl, hd0, HDD.out, by omega, by omega, HS8.out.bel⟩
  · go_ret2
    exact ⟨_, _, rfl, hdm0, HDM.out, by omega, by omega, HS6.out.bel⟩
theorem shortFloat_any (m e : Int) (w : World) (hm0 : 0 ≤ m) (hm1 : m < 18446744073709551616) (he0 : -1137 ≤ e) (he1 : e ≤ 960) (ht : Tb w) :
    Calls Tryz.prog 118 #[.int .u64 m, .int .i64 e] w fun en w' => SfR w en w' := by
  cases hmt : (m == 9223372036854775808) with
  | true =>
    by_cases h1 : -1085 < e
    · exact sf_a m e w hm0 hm1 h1 he1 hmt ht
    · by_cases h2 : e = -1085
      · exact sf_b2 m e w hm0 hm1 h2 hmt ht
      · exact sf_c2 m e w hm0 hm1 (by omega) he0 hmt ht
  | false =>
    by_cases h1 : -1085 ≤ e
    · exact sf_b1 m e w hm0 hm1 h1 he1 hmt ht
    · exact sf_c1 m e w hm0 hm1 (by omega) he0 hmt ht
end Go.Proofs.YtkogipaaioibaaaGreatDoor

namespace Go.Proofs.YtkogipaaioibaaaGreatDoor
set_option linter.unusedVariables false
set_option linter.unusedSimpArgs false
open Go.RowKit Go.Proofs.YtkogipaaioibaaaGreatDoorW.PrintWords
open Go.Sort (mapBlock putRow Holds holds_putRow)

/-- numDigits: so many digits that the number fits. -/
def NdR (d : Int) (w : World) (e : Ending) (w' : World) : Prop := ∃ nd : Nat, e = .returned (.int .i64 nd) ∧ nd ≤ 20 ∧ d < 10 ^ nd ∧ Drawn0 w w'
theorem numDigits_pos (d : Int) (w : World) (h0 : 1 ≤ d) (h1 : Q64 d) (ht : Tb w) : Calls Tryz.prog 84 #[.int .u64 d] w fun e w' => NdR d w e w' := by
  unfold Q64 at h1
  obtain ⟨u, rfl⟩ : ∃ u : Nat, d = u := ⟨d.toNat, by omega⟩
  refine (Tryz.internal_strconv_numDigits u (by omega) (by omega) w (ht.p10 w (Below.refl _ _))).mono ?_
  rintro e w' ⟨rfl, rfl⟩
  exact ⟨_, rfl, Lib.nDigits_le20 u (by omega), by have := Lib.lt_pow_nDigits u; exact_mod_cast this, Drawn0.refl _⟩
theorem bool2i_f (w : World) : Calls Tryz.prog 94 #[.bool false] w fun e w' => e = .returned (.int .i64 0) ∧ w' = w := by
  go_enter Tryz.func94, Tryz.ntmps94
  go_wp2_with fail
  go_ret
  exact ⟨rfl, rfl⟩
set_option maxHeartbeats 1000000 in
set_option maxRecDepth 100000 in
theorem numDigits_zero (w : World) (ht : Tb w) : Calls Tryz.prog 84 #[.int .u64 0] w fun e w' => NdR 0 w e w' := by
  have hc : w.cell? ⟨1, 0, none⟩ = some (.int .u64 1) := Lib.TabIs.cell (ht.p10 w (Below.refl _ _)) (by kernel_rfl) 0 (by decide)
  have HL : Hid (∀ w : World, Calls Tryz.prog 93 #[.int .u64 0] w fun e w' => e = .returned (.int .i64 0) ∧ w' = w) := Lib.hid (fun w => Tryz.bits_Len64 0 w (by decide) (by decide))
  have HG : Hid (∀ w : World, Calls Tryz.prog 92 #[.int .i64 0] w fun e w' => e = .returned (.int .i64 0) ∧ Drawn0 w w') := Lib.hid (fun w => log10_any 0 w (by decide) (by decide))
  clear ht
  go_enter Tryz.func84, Tryz.ntmps84
  go_wp2_with fail
  refine (HL.out _).mono ?_
  rintro e w1 ⟨rfl, rfl⟩
  go_wp2_with fail
  refine (HG.out _).mono ?_
  rintro e w2 ⟨rfl, ⟨n2, rfl⟩⟩
  go_wp2_with fail
  refine (bool2i_f _).mono ?_
  rintro e w3 ⟨rfl, rfl⟩
  go_wp2_with fail
  go_ret
  exact ⟨0, rfl, by decide, by decide, ⟨_, rfl⟩⟩
theorem numDigits_any (d : Int) (w : World) (h0 : 0 ≤ d) (h1 : Q64 d) (ht : Tb w) : Calls Tryz.prog 84 #[.int .u64 d] w fun e w' => NdR d w e w' := by
  by_cases h : 1 ≤ d
  · exact numDigits_pos d w h h1 ht
  · obtain rfl : d = 0 := by omega
    exact numDigits_zero w ht
/-- The first cells of a block hold digits. -/
def BufD (w : World) (g : Nat) (ds : List Int) : Prop := (∀ x ∈ ds, 48 ≤ x ∧ x ≤ 57) ∧ ∀ j, j < ds.length → w.cell? ⟨g, j, none⟩ = some (.int .u8 (ds.getD j 0))
/-- The first cells of a block may be written. -/
def BufZ (w : World) (g : Nat) : Prop := g < w.heap.size ∧ ∀ j, j < 32 → w.cell? ⟨g, j, none⟩ = some (.int .u8 0) ∧ w.frozen? ⟨g, j, none⟩ = false
theorem dg_digit (u k : Nat) : 48 ≤ (Lib.dg u k).toNat ∧ (Lib.dg u k).toNat ≤ 57 := by
  unfold Lib.dg
  rw [UInt8.toNat_ofNat']
  omega
theorem grown_mapBlock (w : World) (g : Nat) (f : Array Value → Array Value) : w.grownBy (mapBlock w g f) (some g) :=
  ⟨rfl, rfl, rfl, by simp [mapBlock], fun i hi hne => by
    unfold mapBlock
    simp only [Array.getElem?_modify]
    rw [if_neg (fun e => hne (by rw [e]))]⟩
/-- What formatBase10 leaves. -/
def FbR (g nd : Nat) (w : World) (e : Ending) (w' : World) : Prop := e = .returned (.tuple #[]) ∧ (∃ ds, ds.length = nd ∧ BufD w' g ds) ∧ w.grownBy w' (some g)
theorem format10_any (g nd cap : Nat) (d : Int) (w : World) (hz : BufZ w g) (hnd : nd ≤ 20) (h0 : 0 ≤ d) (h1 : Q64 d) (hd : d < 10 ^ nd) :
    Calls Tryz.prog 85 #[.slice (some ⟨g, 0, none⟩) nd cap, .int .u64 d] w fun e w' => FbR g nd w e w' := by
  unfold Q64 at h1
  obtain ⟨u, rfl⟩ : ∃ u : Nat, d = u := ⟨d.toNat, by omega⟩
  have hsz : (Array.replicate nd (0 : UInt8)).size = nd := by simp
  have h := Tryz.internal_strconv_formatBase10 g 0 cap u (Array.replicate nd (0 : UInt8)) w (fun j hj => by
    rw [hsz] at hj
    obtain ⟨a, b⟩ := hz.2 j (by omega)
    rw [Nat.zero_add]
    refine ⟨?_, b⟩
    rw [a, getElem!_pos _ j (by simpa using hj)]
    simp) (by rw [hsz]; exact_mod_cast hd) (by omega) (by rw [hsz]; omega)
  rw [hsz] at h
  refine h.mono ?_
  rintro e w' ⟨rfl, n, v', dk, rfl, hi⟩
  have hdz : dk.size = nd := hi.size
  refine ⟨rfl, ⟨dk.toList.map fun b => (b.toNat : Int), by simp [hdz], ?_, ?_⟩, ?_⟩
  · intro x hx
    obtain ⟨b, hb, rfl⟩ := List.mem_map.1 hx
    obtain ⟨j, hj, rfl⟩ := List.getElem_of_mem hb
    have hj' : j < nd := by simpa [hdz] using hj
    have := hi.done j (Nat.zero_le _) hj'
    rw [getElem!_pos dk j (by omega)] at this
    rw [show dk.toList[j] = dk[j]'(by omega) from by simp, this]
    have := dg_digit u (nd - 1 - j)
    omega
  · intro j hj
    have hj' : j < dk.size := by simpa using hj
    have hc := (holds_putRow (fun (b : UInt8) => Value.int .u8 (b.toNat : Int)) w g 0 (Array.replicate nd (0 : UInt8)) dk (fun j hj => by
      rw [hsz] at hj
      obtain ⟨a, b⟩ := hz.2 j (by omega)
      rw [Nat.zero_add]
      refine ⟨?_, b⟩
      rw [a, getElem!_pos _ j (by simpa using hj)]
      simp) (by rw [hsz, hdz]) j hj').1
    rw [Nat.zero_add] at hc
    show (putRow _ w g 0 dk).cell? _ = _
    rw [hc, getElem!_pos dk j hj']
    simp [List.getD_eq_getElem?_getD, hj']
  · exact grown_trans' (grown_mapBlock w g _) (grown_of_below (pw_below_drewN (Below.refl _ _) n) _)
end Go.Proofs.YtkogipaaioibaaaGreatDoor

namespace Go.Proofs.YtkogipaaioibaaaGreatDoor
set_option linter.unusedVariables false
set_option linter.unusedSimpArgs false
open Go.RowKit Go.Proofs.YtkogipaaioibaaaGreatDoorW.PrintWords
open PAll (info5)

theorem BufD.keep {w w' : World} {g : Nat} {ds : List Int} (h : BufD w g ds) (hk : w'.heap[g]? = w.heap[g]?) : BufD w' g ds :=
  ⟨h.1, fun j hj => (World.cell?_of_block hk).trans (h.2 j hj)⟩
/-- What setDigits answers. -/
def SdR (g nd : Nat) (p : Int) (w : World) (e : Ending) (w' : World) : Prop :=
  ∃ nz : Nat, nz ≤ nd ∧ e = .returned (.tuple #[.int .i64 (nd + p), .int .i64 nz]) ∧ (∃ ds, ds.length = nd ∧ BufD w' g ds) ∧ w.grownBy w' (some g)
set_option maxHeartbeats 2000000 in
set_option maxRecDepth 100000 in
theorem setDigits_any (g nd : Nat) (d p : Int) (w : World) (hz : BufZ w g) (hnd : nd ≤ 20) (h0 : 0 ≤ d) (h1 : Q64 d) (hd : d < 10 ^ nd) (hp0 : -1000 ≤ p) (hp1 : p ≤ 1000) :
    Calls Tryz.prog 113 #[.slice (some ⟨g, 0, none⟩) 32 32, .int .u64 d, .int .i64 p, .int .i64 nd] w fun e w' => SdR g nd p w e w' := by
  have HF := Lib.hid (fun cap => format10_any g nd cap d w hz hnd h0 h1 hd)
  have hn1 : (nd : Int) ≤ 20 := by omega
  have hn2 : nd ≤ 32 := by omega
  clear hz h0 h1 hd
  go_enter Tryz.func113, Tryz.ntmps113
  go_wp2_with fail
  refine (HF.out _).mono ?_
  rintro e w1 ⟨rfl, ⟨ds, hds, hb⟩, hg⟩
  have HB := Lib.hid hb
  have HG := Lib.hid hg
  have HD := Lib.hid hds
  clear hb hg hds HF
  go_wp2_with fail
  go_loopg [3] nd (fun gk v3 wr => wr = w1 ∧ ∃ k : Nat, v3 = .int .i64 k ∧ Aside0 (k ≤ nd ∧ gk = k))
  case atStart => exact ⟨rfl, nd, rfl, ⟨Nat.le_refl _, rfl⟩⟩
  case round =>
    obtain ⟨rfl, k, rfl, HK⟩ := hrel
    have hk0 : k ≤ nd := HK.out.1
    by_cases hk : k = 0
    · subst hk
      go_wp2_with fail
      go_ret2
      exact ⟨0, Nat.zero_le _, rfl, ⟨ds, HD.out, HB.out⟩, HG.out⟩
    · obtain ⟨x, hx⟩ : ∃ x, ds.getD (k - 1) 0 = x := ⟨_, rfl⟩
      have hc : wr.cell? ⟨g, k - 1, none⟩ = some (.int .u8 x) := by rw [← hx]; exact HB.out.2 (k - 1) (by rw [HD.out]; omega)
      have hk1 : 0 < k := by omega
      have hk2 : (0 : Int) < (k : Int) := by omega
      have hk3 : (k : Int) ≤ 20 := by omega
      clear hx hk
      go_wp2_with fail
      · go_roundg (k - 1)
        case measure => have := HK.out.2; omega
        case rel => exact ⟨rfl, k - 1, by rw [show (k : Int) - 1 = ((k - 1 : Nat) : Int) by omega], ⟨by omega, rfl⟩⟩
      · go_ret2
        exact ⟨k, hk0, rfl, ⟨ds, HD.out, HB.out⟩, HG.out⟩
end Go.Proofs.YtkogipaaioibaaaGreatDoor

namespace Go.Proofs.YtkogipaaioibaaaGreatDoor
set_option linter.unusedVariables false
set_option linter.unusedSimpArgs false
open Go.RowKit Go.Proofs.YtkogipaaioibaaaGreatDoorW.PrintWords Go.Proofs.YtkogipaaioibaaaGreatDoorW.PrintLast Go.Proofs.YtkogipaaioibaaaGreatDoorW.PrintMore
attribute [local go_sem] max2_int min2_int max_two min_two max_three min_three max_four min_four
open PAll (info5)

/-- The text so far: a row of bytes of the call's own without a line feed, and the digits. -/
abbrev NoNl (xs : List Int) : Prop := ∀ x ∈ xs, x ≠ 10 ∧ 0 ≤ x ∧ x < 256
theorem NoNl.app {a b : List Int} (ha : NoNl a) (hb : NoNl b) : NoNl (a ++ b) := fun x hx => by
  rw [List.mem_append] at hx
  rcases hx with q | q
  · exact ha x q
  · exact hb x q
structure DS (w0 wc : World) (B sb n : Nat) (v : Value) (ds : List Int) : Prop where
  row : ∃ xs : List Int, xs.length ≤ n ∧ NoNl xs ∧ (Kd.int .u8).R 5 wc B (fun k => k ≠ sb) v xs
  buf : BufD wc sb ds
  bel : Below B w0 wc
  base : B ≤ wc.heap.size
  lt : sb < wc.heap.size
  small : n ≤ 100
theorem DS.slice {w0 wc : World} {B sb n : Nat} {v : Value} {ds : List Int} (h : DS w0 wc B sb n v ds) : ∃ A m c, v = .slice A m c := by
  obtain ⟨xs, _, _, hr⟩ := h.row
  obtain ⟨A, c, hv⟩ := Kd.R_slice hr
  exact ⟨A, _, c, hv⟩
theorem DS.alloc {w0 wc : World} {B sb n : Nat} {v : Value} {ds : List Int} (h : DS w0 wc B sb n v ds) (o : Obj) : DS w0 (wc.alloc o) B sb n v ds := by
  obtain ⟨xs, h1, h2, h3⟩ := h.row
  exact ⟨⟨xs, h1, h2, Kd.R_alloc h3 o⟩, h.buf.keep (Below.heap_alloc _ _ _ h.lt), h.bel.alloc h.base o, by rw [World.size_alloc]; have := h.base; omega, by rw [World.size_alloc]; have := h.lt; omega, h.small⟩
section
variable {P : Program} {ops : Array Oper} {rest : List Oper} {o : Oper} {a : Act} {Q : Exit → Act → World → Prop}
/-- append(dst, bytes...). -/
theorem DS.app {w0 W : World} {B sb n : Nat} {A0 : Option Addr} {n0 c0 : Nat} {ds : List Int} (D : DS w0 W B sb n (.slice A0 n0 c0) ds) (hgd : o.guard = none) (s x : Operand) (ho : o.op = .call { callee := .builtin .append, args := #[s, x], argTypes := #[42, 42] })
    (A : Option Addr) (m c : Nat) (ys : List Int) (hs : a.eval s = .slice A0 n0 c0) (hx : a.eval x = .slice A m c) (hr : ReadsInt W .u8 A m ys) (hy : NoNl ys) (hm : n + m ≤ 100)
    (h : ∀ A1 m1 c1 w1, DS w0 w1 B sb (n + m) (.slice A1 m1 c1) ds → wpList Tryz.prog ops Q rest (a.put o.dst (.slice A1 m1 c1)) w1) :
    wpList Tryz.prog ops Q (o :: rest) a W := by
  obtain ⟨xs, h1, h2, h3⟩ := D.row
  have hn := D.small
  have hml : ys.length = m := hr.1
  refine print_append_row (w0 := w0) B hgd s x 42 5 .u8 1 ho Tryz.underlying42 info5 (by decide) (.slice A0 n0 c0) xs ys A m c hs hx (Kd.own_of_R h3) hr D.bel D.base (by omega) ?_
  intro v1 w1 hown hbel hg hat
  have hok : ∀ k, v1.ownBlock = some k → k ≠ sb := by
    intro k hk
    rcases hat with he | ⟨b, he, hb⟩
    · rw [he] at hk
      exact h3.1 k hk
    · rw [he] at hk
      injection hk with hk
      have := D.lt
      omega
  have hR : (Kd.int .u8).R 5 w1 B (fun k => k ≠ sb) v1 (xs ++ ys) := Kd.R_of_own hown hok
  obtain ⟨A1, c1, rfl⟩ := Kd.R_slice hR
  refine h A1 _ c1 w1 ⟨⟨xs ++ ys, by rw [List.length_append]; omega, NoNl.app h2 hy, hR⟩, D.buf.keep (hg.block sb D.lt (fun e => h3.1 sb e.symm rfl)), hbel, Nat.le_trans D.base hg.size, Nat.lt_of_lt_of_le D.lt hg.size, by omega⟩
end
theorem readsN1 (w : World) (a : Int) : ReadsInt (w.alloc (.cells #[.int .u8 a] 5)) .u8 (some ⟨w.heap.size, 0, none⟩) 1 [a] :=
  reads_blk (heap_alloc_new w _) rfl (by decide) fun j hj => by
    match j, hj with
    | 0, _ => rfl
theorem readsN3 (w : World) (a b c : Int) : ReadsInt (w.alloc (.cells #[.int .u8 a, .int .u8 b, .int .u8 c] 5)) .u8 (some ⟨w.heap.size, 0, none⟩) 3 [a, b, c] :=
  reads_blk (heap_alloc_new w _) rfl (by decide) fun j hj => by
    match j, hj with
    | 0, _ => rfl
    | 1, _ => rfl
    | 2, _ => rfl
/-- The digits from a place on, as a row. -/
theorem BufD.reads {w : World} {g : Nat} {ds : List Int} (h : BufD w g ds) (i m : Nat) (hm : i + m ≤ ds.length) (hl : ds.length ≤ 1000) : ReadsInt w .u8 (some ⟨g, i, none⟩) m ((ds.drop i).take m) :=
  ⟨by rw [List.length_take, List.length_drop]; omega, by omega, fun _ => ⟨_, rfl, fun j hj => by
    rw [show (⟨g, i, none⟩ : Addr).add j = ⟨g, i + j, none⟩ by unfold Addr.add; split <;> simp_all]
    rw [h.2 (i + j) (by omega)]
    simp [List.getD_eq_getElem?_getD, List.getElem?_take, hj, List.getElem?_drop]⟩⟩
theorem BufD.no10 {w : World} {g : Nat} {ds : List Int} (h : BufD w g ds) (i m : Nat) : NoNl ((ds.drop i).take m) := fun x hm => by
  have := h.1 x (List.mem_of_mem_drop (List.mem_of_mem_take hm))
  omega
/-- What fmtEFG answers. -/
def FmR (w0 : World) (B : Nat) (e : Ending) (w' : World) : Prop := ∃ v xs, e = .returned v ∧ xs.length ≤ 100 ∧ NoNl xs ∧ (Kd.int .u8).R 5 w' B (fun _ => True) v xs ∧ Below B w0 w'
theorem DS.fm {w0 wc : World} {B sb n : Nat} {v : Value} {ds : List Int} (h : DS w0 wc B sb n v ds) : FmR w0 B (.returned v) wc := by
  obtain ⟨xs, h1, h2, h3⟩ := h.row
  exact ⟨v, xs, rfl, by have := h.small; omega, h2, Kd.R_mono h3 (fun _ _ => trivial), h.bel⟩
end Go.Proofs.YtkogipaaioibaaaGreatDoor
