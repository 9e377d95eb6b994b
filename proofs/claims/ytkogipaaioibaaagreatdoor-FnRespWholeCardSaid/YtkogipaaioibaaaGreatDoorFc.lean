/- Floats: fmtEFG as a whole; numDigits with its number. (seat r3.ZD) Floats: ftoa64: what it computes with. (seat r3.ZD) Floats: ftoa64, way by way. (seat r3.ZD; printed by gen_rfa.py) Floats: the whole of FormatFloat, and spec.floatText. (seat r3.ZD) -/
import Derived.Test.YtkogipaaioibaaaGreatDoorFb
import Derived.Test.YtkogipaaioibaaaGreatDoorRF7fg
import Derived.Test.YtkogipaaioibaaaGreatDoorFa
import Derived.Laws.BitsAllLaws
namespace Go.Proofs.YtkogipaaioibaaaGreatDoor
set_option linter.unusedVariables false
set_option linter.unusedSimpArgs false
open Go.RowKit Go.Proofs.YtkogipaaioibaaaGreatDoorW.PrintWords

theorem fmtEFG_any (neg : Bool) (w0 w : World) (B sb : Nat) (A0 : Option Addr) (n0 c0 : Nat) (dp : Int) (nz : Nat) (ds : List Int) (D : DS w0 w B sb 0 (.slice A0 n0 c0) ds) (hds : ds.length ≤ 20) (hnz : nz ≤ ds.length) (h0 : -500 ≤ dp) (h1 : dp ≤ 500) :
    Calls Tryz.prog 111 #[.slice A0 n0 c0, .bool neg, .slice (some ⟨sb, 0, none⟩) 32 32, .int .i64 dp, .int .i64 nz, .int .i64 nz, .int .u8 103, .bool true] w fun e w' => FmR w0 B e w' := by
  have e0 : nz = 0 → (.int .i64 (nz : Int) : Value) = .int .i64 0 := fun h => by rw [h]; rfl
  have e1 : nz = 1 → (.int .i64 (nz : Int) : Value) = .int .i64 1 := fun h => by rw [h]; rfl
  by_cases ha : dp < -3
  · have hE : dp - 1 = -(1 - dp) := by omega
    rcases Nat.lt_or_ge nz 2 with hn | hn
    · rcases Nat.lt_or_ge nz 1 with hn1 | hn1
      · rw [e0 (by omega)]
        cases neg
        · exact fm_ef0n w0 w B sb A0 n0 c0 dp (1 - dp) ds D hds hE (by omega) (by omega)
        · exact fm_et0n w0 w B sb A0 n0 c0 dp (1 - dp) ds D hds hE (by omega) (by omega)
      · rw [e1 (by omega)]
        cases neg
        · exact fm_ef1n w0 w B sb A0 n0 c0 dp (1 - dp) ds D hds (by omega) hE (by omega) (by omega)
        · exact fm_et1n w0 w B sb A0 n0 c0 dp (1 - dp) ds D hds (by omega) hE (by omega) (by omega)
    · cases neg
      · exact fm_ef2n w0 w B sb A0 n0 c0 dp (1 - dp) ds nz D hds hn hnz hE (by omega) (by omega)
      · exact fm_et2n w0 w B sb A0 n0 c0 dp (1 - dp) ds nz D hds hn hnz hE (by omega) (by omega)
  · by_cases hb : 7 ≤ dp
    · have hE : dp - 1 = dp - 1 := rfl
      rcases Nat.lt_or_ge nz 2 with hn | hn
      · rcases Nat.lt_or_ge nz 1 with hn1 | hn1
        · rw [e0 (by omega)]
          cases neg
          · exact fm_ef0p w0 w B sb A0 n0 c0 dp (dp - 1) ds D hds hE (by omega) (by omega)
          · exact fm_et0p w0 w B sb A0 n0 c0 dp (dp - 1) ds D hds hE (by omega) (by omega)
        · rw [e1 (by omega)]
          cases neg
          · exact fm_ef1p w0 w B sb A0 n0 c0 dp (dp - 1) ds D hds (by omega) hE (by omega) (by omega)
          · exact fm_et1p w0 w B sb A0 n0 c0 dp (dp - 1) ds D hds (by omega) hE (by omega) (by omega)
      · cases neg
        · exact fm_ef2p w0 w B sb A0 n0 c0 dp (dp - 1) ds nz D hds hn hnz hE (by omega) (by omega)
        · exact fm_et2p w0 w B sb A0 n0 c0 dp (dp - 1) ds nz D hds hn hnz hE (by omega) (by omega)
    · by_cases hc : 1 ≤ dp
      · obtain ⟨q, rfl⟩ : ∃ q : Nat, dp = q := ⟨dp.toNat, by omega⟩
        rcases Nat.lt_trichotomy nz q with hq | hq | hq
        · cases neg
          · exact fm_ff1 w0 w B sb A0 n0 c0 ds D hds q nz (by omega) (by omega) hnz hq
          · exact fm_ft1 w0 w B sb A0 n0 c0 ds D hds q nz (by omega) (by omega) hnz hq
        · subst hq
          cases neg
          · exact fm_ff6 w0 w B sb A0 n0 c0 ds D hds nz (by omega) (by omega) hnz
          · exact fm_ft6 w0 w B sb A0 n0 c0 ds D hds nz (by omega) (by omega) hnz
        · cases neg
          · exact fm_ff2 w0 w B sb A0 n0 c0 ds D hds q nz (by omega) (by omega) hnz hq
          · exact fm_ft2 w0 w B sb A0 n0 c0 ds D hds q nz (by omega) (by omega) hnz hq
      · by_cases hd : dp = 0
        · subst hd
          rcases Nat.lt_or_ge nz 1 with hn | hn
          · rw [e0 (by omega)]
            cases neg
            · exact fm_ff5 w0 w B sb A0 n0 c0 ds D hds
            · exact fm_ft5 w0 w B sb A0 n0 c0 ds D hds
          · cases neg
            · exact fm_ff7 w0 w B sb A0 n0 c0 ds D hds nz hnz hn
            · exact fm_ft7 w0 w B sb A0 n0 c0 ds D hds nz hnz hn
        · obtain ⟨q, hq⟩ : ∃ q : Nat, dp = -(q : Int) := ⟨(-dp).toNat, by omega⟩
          subst hq
          rcases Nat.lt_or_ge nz 1 with hn | hn
          · rw [e0 (by omega)]
            cases neg
            · exact fm_ff4 w0 w B sb A0 n0 c0 ds D hds q (by omega) (by omega)
            · exact fm_ft4 w0 w B sb A0 n0 c0 ds D hds q (by omega) (by omega)
          · cases neg
            · exact fm_ff3 w0 w B sb A0 n0 c0 ds D hds q nz (by omega) (by omega) hnz hn
            · exact fm_ft3 w0 w B sb A0 n0 c0 ds D hds q nz (by omega) (by omega) hnz hn
theorem fmtEFG_zero (neg : Bool) (w0 w : World) (B sb : Nat) (A0 : Option Addr) (n0 c0 : Nat) (D : DS w0 w B sb 0 (.slice A0 n0 c0) []) :
    Calls Tryz.prog 111 #[.slice A0 n0 c0, .bool neg, .slice none 0 0, .int .i64 0, .int .i64 0, .int .i64 (-1), .int .u8 103, .bool true] w fun e w' => FmR w0 B e w' := by
  cases neg
  · exact fm_zf w0 w B sb A0 n0 c0 D
  · exact fm_zt w0 w B sb A0 n0 c0 D
set_option maxHeartbeats 1000000 in
set_option maxRecDepth 100000 in
theorem numDigits_zero' (w : World) (ht : Tb w) : Calls Tryz.prog 84 #[.int .u64 0] w fun e w' => e = .returned (.int .i64 0) ∧ Drawn0 w w' := by
  have hc : w.cell? ⟨1, 0, none⟩ = some (.int .u64 1) := Lib.TabIs.cell (ht.p10 w (Below.refl _ _)) (by kernel_rfl) 0 (by decide)
  have HL : Hid (∀ w : World, Calls Tryz.prog 93 #[.int .u64 0] w fun e w' => e = .returned (.int .i64 0) ∧ w' = w) := Lib.hid (fun w => Tryz.bits_Len64 0 w (by decide) (by decide))
  have HG : Hid (∀ w : World, Calls Tryz.prog 92 #[.int .i64 0] w fun e w' => e = .returned (.int .i64 0) ∧ Drawn0 w w') := Lib.hid (fun w => log10_any 0 w (by decide) (by decide))
  clear ht
  go_enter Tryz.func84, Tryz.ntmps84
  go_wp2_with fail
  refine (HL.out _).mono ?_
  rintro e w1 ⟨rfl, rfl⟩
  go_wp2_with fail
  refine (HG.out _).mono ?_
  rintro e w2 ⟨rfl, ⟨n2, rfl⟩⟩
  go_wp2_with fail
  refine (bool2i_f _).mono ?_
  rintro e w3 ⟨rfl, rfl⟩
  go_wp2_with fail
  go_ret
  exact ⟨rfl, ⟨_, rfl⟩⟩
theorem numDigits_det (d : Int) (h0 : 0 ≤ d) (h1 : Q64 d) : ∃ nd : Nat, nd ≤ 20 ∧ d < 10 ^ nd ∧ ∀ w, Tb w → Calls Tryz.prog 84 #[.int .u64 d] w fun e w' => e = .returned (.int .i64 nd) ∧ Drawn0 w w' := by
  by_cases h : 1 ≤ d
  · unfold Q64 at h1
    obtain ⟨u, rfl⟩ : ∃ u : Nat, d = u := ⟨d.toNat, by omega⟩
    refine ⟨Lib.nDigits u, Lib.nDigits_le20 u (by omega), by have := Lib.lt_pow_nDigits u; exact_mod_cast this, fun w ht => ?_⟩
    refine (Tryz.internal_strconv_numDigits u (by omega) (by omega) w (ht.p10 w (Below.refl _ _))).mono ?_
    rintro e w' ⟨rfl, rfl⟩
    exact ⟨rfl, Drawn0.refl _⟩
  · obtain rfl : d = 0 := by omega
    refine ⟨0, by decide, by decide, fun w ht => ?_⟩
    refine (numDigits_zero' w ht).mono ?_
    rintro e w' ⟨rfl, hd⟩
    exact ⟨rfl, hd⟩
theorem bitLen_range : ∀ (k x : Nat), k ≤ 63 → x < 2 ^ k → Lib.bitLen x ≤ k ∧ (x ≠ 0 → 1 ≤ Lib.bitLen x) := by
  intro k
  induction k with
  | zero =>
    intro x _ h
    obtain rfl : x = 0 := by simpa using h
    exact ⟨by decide, fun h => absurd rfl h⟩
  | succ k ih =>
    intro x hk h
    by_cases h0 : x = 0
    · subst h0
      exact ⟨by have : Lib.bitLen 0 = 0 := by decide
                omega, fun h => absurd rfl h⟩
    · have h64 : x < 2 ^ 64 := Nat.lt_of_lt_of_le h (Nat.pow_le_pow_right (by decide) (by omega))
      rw [Lib.bitLen_half x h0 h64]
      have := (ih (x / 2) (by omega) (by rw [Nat.pow_succ] at h; omega)).1
      exact ⟨by omega, fun _ => by omega⟩
end Go.Proofs.YtkogipaaioibaaaGreatDoor

namespace Go.Proofs.YtkogipaaioibaaaGreatDoor
set_option linter.unusedVariables false
set_option linter.unusedSimpArgs false
open Go.RowKit Go.Proofs.YtkogipaaioibaaaGreatDoorW.PrintWords Go.Proofs.YtkogipaaioibaaaGreatDoorW.PrintLast Go.Proofs.YtkogipaaioibaaaGreatDoorW.PrintMore
open PAll (info5)
theorem run_bitsI (b : Nat) (w : World) : (callFunc 108 #[.float .f64 b]).run Tryz.prog w = .ok (.value (.int .u64 b)) w := by
  rw [run_callFunc_standIn (e := Extern.MathFloatBits.float64bits) Tryz.func108 (by kernel_rfl) (by kernel_rfl) (by kernel_rfl) (by kernel_rfl)]
  rfl
section
variable {P : Program} {ops : Array Oper} {rest : List Oper} {o : Oper} {a : Act} {Q : Exit → Act → World → Prop}
/-- append(dst, text...), the last one. -/
theorem DS.appS {w0 W : World} {B sb n : Nat} {A0 : Option Addr} {n0 c0 : Nat} {ds : List Int} (D : DS w0 W B sb n (.slice A0 n0 c0) ds) (hgd : o.guard = none) (s x : Operand) (ho : o.op = .call { callee := .builtin .append, args := #[s, x], argTypes := #[42, 9] })
    (t : ByteArray) (hs : a.eval s = .slice A0 n0 c0) (hx : a.eval x = .string t) (hy : NoNl (bytesOf t)) (hm : n + t.size ≤ 100)
    (h : ∀ A1 m1 c1 w1, FmR w0 B (.returned (.slice A1 m1 c1)) w1 → wpList Tryz.prog ops Q rest (a.put o.dst (.slice A1 m1 c1)) w1) :
    wpList Tryz.prog ops Q (o :: rest) a W := by
  obtain ⟨xs, h1, h2, h3⟩ := D.row
  have hn := D.small
  refine print_append_str (w0 := w0) B hgd s x 42 9 5 ho Tryz.underlying42 Tryz.underlying9 info5 (.slice A0 n0 c0) xs t hs hx (Kd.own_of_R h3) D.bel D.base (by omega) ?_
  intro v1 w1 hown hbel hg
  have hR : (Kd.int .u8).R 5 w1 B (fun _ => True) v1 (xs ++ bytesOf t) := Kd.R_of_own hown (fun _ _ => trivial)
  obtain ⟨A1, c1, rfl⟩ := Kd.R_slice hR
  exact h A1 _ c1 w1 ⟨_, xs ++ bytesOf t, rfl, by rw [List.length_append, bytesOf_length]; omega, NoNl.app h2 hy, hR, hbel⟩
end
/-- The text so far, beside a buffer that was made later. -/
theorem DS.rebuf {w0 w wc : World} {B sb n : Nat} {v : Value} {ds : List Int} (D : DS w0 w B 0 n v []) (hb : Below w.heap.size w wc) (hbuf : BufD wc sb ds) (hsb : w.heap.size ≤ sb) (hlt : sb < wc.heap.size) : DS w0 wc B sb n v ds := by
  obtain ⟨xs, h1, h2, h3⟩ := D.row
  exact ⟨⟨xs, h1, h2, Kd.R_mono (Kd.R_below (Kd.R_bound h3) hb) (fun k hk => by have := hk.2.2.1; omega)⟩, hbuf, D.bel.trans (hb.mono D.base), Nat.le_trans D.base hb.size, hlt, D.small⟩
theorem two52 : (2 : Int) ^ 52 = 4503599627370496 := by decide
theorem two12 : (2 : Int) ^ 12 = 4096 := by decide
theorem two64 : (2 : Int) ^ 64 = 18446744073709551616 := by decide
theorem wrapsU64 (n : Int) (h0 : 0 ≤ n) (h1 : n < 2 ^ 64) : IntKind.u64.wrap n = n := by
  rw [two64] at h1
  rw [IntKind.wrap_u64]
  omega
theorem wrapsI12 (n : Int) (h0 : 0 ≤ n) (h1 : n < 2 ^ 12) : IntKind.i64.wrap n = n := by
  rw [two12] at h1
  rw [IntKind.wrap_i64]
  omega
/-- The exponent's bits. -/
theorem exp_bits (x : Int) (h0 : 0 ≤ x) (h1 : x < 18446744073709551616) : bits .and .i64 (wrap64 (x / 4503599627370496)) 2047 = x / 4503599627370496 % 2048 := by
  rw [IntWalk.wrap64_in _ ⟨by omega, by omega⟩]
  exact bits_mask .i64 12 (by decide) wrapsI12 11 (by decide) _ (by omega) (by rw [two12]; omega)
/-- The mantissa's bits. -/
theorem mant_bits (x : Int) (h0 : 0 ≤ x) (h1 : x < 18446744073709551616) : bits .and .u64 x 4503599627370495 = x % 4503599627370496 := by
  have h := bits_mask .u64 64 (by decide) wrapsU64 52 (by decide) x h0 (by rw [two64]; exact h1)
  rwa [two52] at h
/-- The mantissa with its leading one. -/
theorem mant_one (y : Int) (h0 : 0 ≤ y) (h1 : y < 4503599627370496) : bits .or .u64 y 4503599627370496 = y + 4503599627370496 := by
  obtain ⟨a, rfl⟩ : ∃ a : Nat, y = a := ⟨y.toNat, by omega⟩
  have ha : a < 2 ^ 64 := by have : (2 : Nat) ^ 64 = 18446744073709551616 := by decide
                             omega
  have hc := (bits_nat .u64 64 (by decide) wrapsU64 a 4503599627370496 ha (by decide)).2
  have hd := (bits_nat .u64 64 (by decide) wrapsU64 4503599627370496 a (by decide) ha).2
  have hj := bits_join .u64 64 (by decide) wrapsU64 52 4503599627370496 a (by decide) (by decide) (by decide) (by omega) (by rw [two52]; exact h1) (by rw [two64]; omega)
  rw [Nat.or_comm] at hc
  have e1 : bits .or .u64 (a : Int) 4503599627370496 = bits .or .u64 4503599627370496 (a : Int) := hc.trans hd.symm
  rw [e1, hj]
  omega
end Go.Proofs.YtkogipaaioibaaaGreatDoor

namespace Go.Proofs.YtkogipaaioibaaaGreatDoor
set_option linter.unusedVariables false
set_option linter.unusedSimpArgs false
open Go.RowKit Go.Proofs.YtkogipaaioibaaaGreatDoorW.PrintWords Go.Proofs.YtkogipaaioibaaaGreatDoorW.PrintLast Go.Proofs.YtkogipaaioibaaaGreatDoorW.PrintMore
attribute [local go_sem] max2_int min2_int max_two min_two max_three min_three max_four min_four
open PAll (info5)
theorem DS.drewN {w0 wc : World} {B sb n : Nat} {v : Value} {ds : List Int} (h : DS w0 wc B sb n v ds) (m : Nat) : DS w0 (wc.drewN m) B sb n v ds := by
  obtain ⟨xs, h1, h2, h3⟩ := h.row
  exact ⟨⟨xs, h1, h2, Kd.R_drewN h3 m⟩, h.buf.keep rfl, pw_below_drewN h.bel m, h.base, h.lt, h.small⟩
theorem len_any (m : Int) (h0 : 1 ≤ m) (h1 : m < 9007199254740992) : ∃ bl : Nat, 1 ≤ bl ∧ bl ≤ 53 ∧ ∀ w : World, Calls Tryz.prog 93 #[.int .u64 m] w fun e w' => e = .returned (.int .i64 bl) ∧ w' = w := by
  obtain ⟨u, rfl⟩ : ∃ u : Nat, m = u := ⟨m.toNat, by omega⟩
  have h53 : (2 : Nat) ^ 53 = 9007199254740992 := by decide
  have h := bitLen_range 53 u (by decide) (by omega)
  exact ⟨Lib.bitLen u, h.2 (by omega), h.1, fun w => Tryz.bits_Len64 u w (by omega) (by omega)⟩
theorem below_alloc2 {W w w3 : World} {v : Obj} (h : Below w.heap.size w W) (h2 : Below (W.alloc v).heap.size (W.alloc v) w3) : Below w.heap.size w w3 :=
  (below_alloc h v).trans (h2.mono (below_alloc h v).size)
theorem Tb.drew {w : World} (h : Tb w) : Tb w.drew := h.below (below_drew (Below.refl _ _))
theorem BufZ.drawn {w w' : World} {g : Nat} (h : BufZ w g) (hd : Drawn0 w.drew w') : BufZ w' g := by
  obtain ⟨n, rfl⟩ := hd
  exact h
theorem rebuf' {w0 w w3 w5 w6 : World} {B n : Nat} {v : Value} {ds : List Int} (D : DS w0 w B 0 n v []) (h3 : Below w.heap.size w w3) (hz : BufZ w3 w.heap.size) (h5 : Drawn0 w3.drew w5) (hg : w5.grownBy w6 (some w.heap.size)) (hb : BufD w6 w.heap.size ds) : DS w0 w6 B w.heap.size n v ds := by
  obtain ⟨m, rfl⟩ := h5
  have h5 : Below w.heap.size w (w3.drew.drewN m) := pw_below_drewN (below_drew h3) m
  exact D.rebuf (h5.grown hg h5.size (by rintro k ⟨⟩; exact Nat.le_refl _)) hb (Nat.le_refl _) (Nat.lt_of_lt_of_le hz.1 hg.size)
def zero32 : Obj := .cells (Array.replicate 32 (.int .u8 0)) 152 (0, 0)
theorem bufz_of {W w3 : World} (h : Below (W.alloc zero32).heap.size (W.alloc zero32) w3) : BufZ w3 W.heap.size := by
  have hb : w3.heap[W.heap.size]? = some zero32 := (h.block _ (by simp)).trans (heap_alloc_new W _)
  refine ⟨blk_lt hb, fun j hj => ⟨(blk_cell hb j).trans ?_, blk_frozen hb j⟩⟩
  simp only [Array.getElem?_replicate, hj, if_true]
theorem BufD.nil (w : World) (g : Nat) : BufD w g [] := ⟨by simp, by simp⟩
set_option maxHeartbeats 4000000 in
set_option maxRecDepth 100000 in
theorem ft_nt (b : Nat) (x ex mt : Int) (ng : Bool) (w0 w : World) (B : Nat) (A0 : Option Addr) (n0 c0 : Nat) (hfb : ∀ w : World, (callFunc 108 #[.float .f64 b]).run Tryz.prog w = .ok (.value (.int .u64 x)) w)
    (hE : bits .and .i64 (wrap64 (x / 4503599627370496)) 2047 = ex) (hM : bits .and .u64 x 4503599627370495 = mt) (hN : (x / 9223372036854775808 != 0) = ng) (he : ex = 2047) (hm : (mt != 0) = true) (D : DS w0 w B 0 0 (.slice A0 n0 c0) []) :
    Calls Tryz.prog 98 #[.slice A0 n0 c0, .float .f64 b, .int .u8 103, .int .i64 (-1)] w fun e w' => FmR w0 B e w' := by
  have HD := Lib.hid D
  clear D
  subst he
  go_enter Tryz.func98, Tryz.ntmps98
  go_wp2_with fail
  go_quiet (fail)
  have HD2 := Lib.hid (HD.out.drewN nq)
  go_wp2_with (first | ((with_reducible refine gate_builtin (b := .append) (xs := #[.tmp 70, .const (.string ⟨#[78, 97, 78]⟩)]) rfl ?_); at_builtin; refine DS.appS HD2.out rfl (.tmp 70) (.const (.string ⟨#[78, 97, 78]⟩)) rfl _ rfl rfl (by decide) (by decide) ?_; intro A1 m1 c1 w1 hf; have HF := Lib.hid hf; clear hf) | ((with_reducible refine gate_builtin (b := .append) (xs := #[.tmp 73, .const (.string ⟨#[45, 73, 110, 102]⟩)]) rfl ?_); at_builtin; refine DS.appS HD2.out rfl (.tmp 73) (.const (.string ⟨#[45, 73, 110, 102]⟩)) rfl _ rfl rfl (by decide) (by decide) ?_; intro A1 m1 c1 w1 hf; have HF := Lib.hid hf; clear hf) | ((with_reducible refine gate_builtin (b := .append) (xs := #[.tmp 75, .const (.string ⟨#[43, 73, 110, 102]⟩)]) rfl ?_); at_builtin; refine DS.appS HD2.out rfl (.tmp 75) (.const (.string ⟨#[43, 73, 110, 102]⟩)) rfl _ rfl rfl (by decide) (by decide) ?_; intro A1 m1 c1 w1 hf; have HF := Lib.hid hf; clear hf))
  go_ret
  exact HF.out
set_option maxHeartbeats 4000000 in
set_option maxRecDepth 100000 in
theorem ft_it (b : Nat) (x ex mt : Int) (ng : Bool) (w0 w : World) (B : Nat) (A0 : Option Addr) (n0 c0 : Nat) (hfb : ∀ w : World, (callFunc 108 #[.float .f64 b]).run Tryz.prog w = .ok (.value (.int .u64 x)) w)
    (hE : bits .and .i64 (wrap64 (x / 4503599627370496)) 2047 = ex) (hM : bits .and .u64 x 4503599627370495 = mt) (hN : (x / 9223372036854775808 != 0) = ng) (he : ex = 2047) (hm : (mt != 0) = false) (hg : ng = true) (D : DS w0 w B 0 0 (.slice A0 n0 c0) []) :
    Calls Tryz.prog 98 #[.slice A0 n0 c0, .float .f64 b, .int .u8 103, .int .i64 (-1)] w fun e w' => FmR w0 B e w' := by
  have HD := Lib.hid D
  clear D
  subst hg
  subst he
  go_enter Tryz.func98, Tryz.ntmps98
  go_wp2_with fail
  go_quiet (fail)
  have HD2 := Lib.hid (HD.out.drewN nq)
  go_wp2_with (first | ((with_reducible refine gate_builtin (b := .append) (xs := #[.tmp 70, .const (.string ⟨#[78, 97, 78]⟩)]) rfl ?_); at_builtin; refine DS.appS HD2.out rfl (.tmp 70) (.const (.string ⟨#[78, 97, 78]⟩)) rfl _ rfl rfl (by decide) (by decide) ?_; intro A1 m1 c1 w1 hf; have HF := Lib.hid hf; clear hf) | ((with_reducible refine gate_builtin (b := .append) (xs := #[.tmp 73, .const (.string ⟨#[45, 73, 110, 102]⟩)]) rfl ?_); at_builtin; refine DS.appS HD2.out rfl (.tmp 73) (.const (.string ⟨#[45, 73, 110, 102]⟩)) rfl _ rfl rfl (by decide) (by decide) ?_; intro A1 m1 c1 w1 hf; have HF := Lib.hid hf; clear hf) | ((with_reducible refine gate_builtin (b := .append) (xs := #[.tmp 75, .const (.string ⟨#[43, 73, 110, 102]⟩)]) rfl ?_); at_builtin; refine DS.appS HD2.out rfl (.tmp 75) (.const (.string ⟨#[43, 73, 110, 102]⟩)) rfl _ rfl rfl (by decide) (by decide) ?_; intro A1 m1 c1 w1 hf; have HF := Lib.hid hf; clear hf))
  go_ret
  exact HF.out
set_option maxHeartbeats 4000000 in
set_option maxRecDepth 100000 in
theorem ft_if (b : Nat) (x ex mt : Int) (ng : Bool) (w0 w : World) (B : Nat) (A0 : Option Addr) (n0 c0 : Nat) (hfb : ∀ w : World, (callFunc 108 #[.float .f64 b]).run Tryz.prog w = .ok (.value (.int .u64 x)) w)
    (hE : bits .and .i64 (wrap64 (x / 4503599627370496)) 2047 = ex) (hM : bits .and .u64 x 4503599627370495 = mt) (hN : (x / 9223372036854775808 != 0) = ng) (he : ex = 2047) (hm : (mt != 0) = false) (hg : ng = false) (D : DS w0 w B 0 0 (.slice A0 n0 c0) []) :
    Calls Tryz.prog 98 #[.slice A0 n0 c0, .float .f64 b, .int .u8 103, .int .i64 (-1)] w fun e w' => FmR w0 B e w' := by
  have HD := Lib.hid D
  clear D
  subst hg
  subst he
  go_enter Tryz.func98, Tryz.ntmps98
  go_wp2_with fail
  go_quiet (fail)
  have HD2 := Lib.hid (HD.out.drewN nq)
  go_wp2_with (first | ((with_reducible refine gate_builtin (b := .append) (xs := #[.tmp 70, .const (.string ⟨#[78, 97, 78]⟩)]) rfl ?_); at_builtin; refine DS.appS HD2.out rfl (.tmp 70) (.const (.string ⟨#[78, 97, 78]⟩)) rfl _ rfl rfl (by decide) (by decide) ?_; intro A1 m1 c1 w1 hf; have HF := Lib.hid hf; clear hf) | ((with_reducible refine gate_builtin (b := .append) (xs := #[.tmp 73, .const (.string ⟨#[45, 73, 110, 102]⟩)]) rfl ?_); at_builtin; refine DS.appS HD2.out rfl (.tmp 73) (.const (.string ⟨#[45, 73, 110, 102]⟩)) rfl _ rfl rfl (by decide) (by decide) ?_; intro A1 m1 c1 w1 hf; have HF := Lib.hid hf; clear hf) | ((with_reducible refine gate_builtin (b := .append) (xs := #[.tmp 75, .const (.string ⟨#[43, 73, 110, 102]⟩)]) rfl ?_); at_builtin; refine DS.appS HD2.out rfl (.tmp 75) (.const (.string ⟨#[43, 73, 110, 102]⟩)) rfl _ rfl rfl (by decide) (by decide) ?_; intro A1 m1 c1 w1 hf; have HF := Lib.hid hf; clear hf))
  go_ret
  exact HF.out
set_option maxHeartbeats 4000000 in
set_option maxRecDepth 100000 in
theorem ft_zero (b : Nat) (x ex mt : Int) (ng : Bool) (w0 w : World) (B : Nat) (A0 : Option Addr) (n0 c0 : Nat) (hfb : ∀ w : World, (callFunc 108 #[.float .f64 b]).run Tryz.prog w = .ok (.value (.int .u64 x)) w)
    (hE : bits .and .i64 (wrap64 (x / 4503599627370496)) 2047 = ex) (hM : bits .and .u64 x 4503599627370495 = mt) (hN : (x / 9223372036854775808 != 0) = ng) (he : ex = 0) (hm : mt = 0) (D : DS w0 w B 0 0 (.slice A0 n0 c0) []) :
    Calls Tryz.prog 98 #[.slice A0 n0 c0, .float .f64 b, .int .u8 103, .int .i64 (-1)] w fun e w' => FmR w0 B e w' := by
  have HD := Lib.hid D
  clear D
  subst he
  subst hm
  go_enter Tryz.func98, Tryz.ntmps98
  go_wp2_with fail
  go_quiet (fail)
  have HD2 := Lib.hid (HD.out.drewN nq)
  go_wp2_with fail
  refine (fmtEFG_zero ng w0 _ B 0 A0 n0 c0 HD2.out).mono ?_
  rintro e w2 ⟨v, xs, rfl, hf⟩
  have HF : Hid (FmR w0 B (.returned v) w2) := Lib.hid ⟨v, xs, rfl, hf⟩
  clear hf
  go_wp2_with fail
  go_ret
  exact HF.out
set_option maxHeartbeats 4000000 in
set_option maxRecDepth 100000 in
theorem ft_s (b : Nat) (x ex mt : Int) (ng : Bool) (w0 w : World) (B : Nat) (A0 : Option Addr) (n0 c0 : Nat) (hfb : ∀ w : World, (callFunc 108 #[.float .f64 b]).run Tryz.prog w = .ok (.value (.int .u64 x)) w)
    (hE : bits .and .i64 (wrap64 (x / 4503599627370496)) 2047 = ex) (hM : bits .and .u64 x 4503599627370495 = mt) (hN : (x / 9223372036854775808 != 0) = ng) (he : ex = 0) (hm : (mt == 0) = false) (hm0 : 1 ≤ mt) (hm1 : mt < 9007199254740992) (ht : Tb w) (D : DS w0 w B 0 0 (.slice A0 n0 c0) []) :
    Calls Tryz.prog 98 #[.slice A0 n0 c0, .float .f64 b, .int .u8 103, .int .i64 (-1)] w fun e w' => FmR w0 B e w' := by
  have HD := Lib.hid D
  clear D
  subst he
  obtain ⟨bl, hbl0, hbl1, HLen⟩ := len_any mt hm0 hm1
  have HL := Lib.hid HLen
  have HT := Lib.hid ht
  have HMB := Lib.hid (And.intro hm0 hm1)
  have s0 : decide ((0 : Int) ≤ 64 - (bl : Int)) = true := decide_eq_true (by omega)
  have s1 : (bl : Int) ≤ 53 := by omega
  have s2 : (1 : Int) ≤ (bl : Int) := by omega
  clear HLen ht hm0 hm1 hbl0 hbl1
  go_enter Tryz.func98, Tryz.ntmps98
  go_wp2_with fail
  go_quiet (fail)
  have HD2 := Lib.hid (HD.out.drewN nq)
  go_wp2_with fail
  refine (HL.out _).mono ?_
  rintro e w2 ⟨rfl, rfl⟩
  go_wp2_with fail
  refine (shortFloat_any _ _ _ (u64r _).1 (u64r _).2 (by omega) (by omega) (HT.out.below (below_alloc (pw_below_drewN (Below.refl _ _) nq) _))).mono ?_
  rintro e w3 ⟨d, p, rfl, hd0, hd1, hp0, hp1, hb3⟩
  have HB3 := Lib.hid (below_alloc2 (pw_below_drewN (Below.refl w.heap.size w) nq) hb3)
  obtain ⟨HZ, HT3, HQd, HDp⟩ := (And.intro (Lib.hid (bufz_of hb3)) (And.intro (Lib.hid (HT.out.below HB3.out)) (And.intro (Lib.hid (And.intro hd0 hd1)) (Lib.hid (And.intro hp0 hp1)))))
  obtain ⟨nd, hnd, hlt, hn⟩ := numDigits_det d hd0 hd1
  have HN := Lib.hid hn
  have HNd := Lib.hid (And.intro hnd hlt)
  clear hb3 hd0 hd1 hp0 hp1 hnd hlt hn HL HT
  go_wp2_with fail
  go_region_held3 (fun wi : World => True)
    (first | exact trivial)
    (first
      | (go_at_call 84; refine (HN.out _ (HT3.out.drew)).mono ?_; rintro e w5 ⟨rfl, hd5⟩)
      | (go_at_call 113; have HD5 := Lib.hid hd5; clear hd5; refine (setDigits_any w.heap.size nd d p _ (HZ.out.drawn HD5.out) HNd.out.1 HQd.out.1 HQd.out.2 HNd.out.2 (by have := HDp.out; omega) (by have := HDp.out; omega)).mono ?_; rintro e w6 ⟨nz, hz1, rfl, ⟨ds, hds, hbd⟩, hgr⟩))
  have HD6 := Lib.hid (rebuf' HD.out HB3.out HZ.out HD5.out hgr hbd)
  have hnz : nz ≤ ds.length := by omega
  have hds2 : ds.length ≤ 20 := by have := HNd.out.1; omega
  have hp := HDp.out
  have hnd := HNd.out.1
  have HF : Hid _ := Lib.hid (fmtEFG_any ng w0 _ B w.heap.size A0 n0 c0 (nd + p) nz ds HD6.out hds2 hnz (by omega) (by omega))
  clear hgr hbd hds hnz hds2 hp hnd
  go_wp2_with fail
  refine HF.out.mono ?_
  rintro e w7 ⟨v, xs, rfl, hf⟩
  have HF : Hid (FmR w0 B (.returned v) w7) := Lib.hid ⟨v, xs, rfl, hf⟩
  clear hf
  go_wp2_with fail
  go_ret
  exact HF.out
set_option maxHeartbeats 4000000 in
set_option maxRecDepth 100000 in
theorem ft_n (b : Nat) (x ex mt : Int) (ng : Bool) (w0 w : World) (B : Nat) (A0 : Option Addr) (n0 c0 : Nat) (hfb : ∀ w : World, (callFunc 108 #[.float .f64 b]).run Tryz.prog w = .ok (.value (.int .u64 x)) w)
    (hE : bits .and .i64 (wrap64 (x / 4503599627370496)) 2047 = ex) (hM : bits .and .u64 x 4503599627370495 = mt) (hN : (x / 9223372036854775808 != 0) = ng) (M : Int) (he : (ex == 2047) = false) (he2 : (ex == 0) = false) (he0 : 1 ≤ ex) (he1 : ex ≤ 2046) (hor : bits .or .u64 mt 4503599627370496 = M) (hm : (M == 0) = false) (hm0 : 1 ≤ M) (hm1 : M < 9007199254740992) (ht : Tb w) (D : DS w0 w B 0 0 (.slice A0 n0 c0) []) :
    Calls Tryz.prog 98 #[.slice A0 n0 c0, .float .f64 b, .int .u8 103, .int .i64 (-1)] w fun e w' => FmR w0 B e w' := by
  have HD := Lib.hid D
  clear D
  obtain ⟨bl, hbl0, hbl1, HLen⟩ := len_any M hm0 hm1
  have HL := Lib.hid HLen
  have HT := Lib.hid ht
  have HMB := Lib.hid (And.intro hm0 hm1)
  have s0 : decide ((0 : Int) ≤ 64 - (bl : Int)) = true := decide_eq_true (by omega)
  have s1 : (bl : Int) ≤ 53 := by omega
  have s2 : (1 : Int) ≤ (bl : Int) := by omega
  clear HLen ht hm0 hm1 hbl0 hbl1
  go_enter Tryz.func98, Tryz.ntmps98
  go_wp2_with fail
  go_quiet (fail)
  have HD2 := Lib.hid (HD.out.drewN nq)
  go_wp2_with fail
  refine (HL.out _).mono ?_
  rintro e w2 ⟨rfl, rfl⟩
  go_wp2_with fail
  refine (shortFloat_any _ _ _ (u64r _).1 (u64r _).2 (by omega) (by omega) (HT.out.below (below_alloc (pw_below_drewN (Below.refl _ _) nq) _))).mono ?_
  rintro e w3 ⟨d, p, rfl, hd0, hd1, hp0, hp1, hb3⟩
  have HB3 := Lib.hid (below_alloc2 (pw_below_drewN (Below.refl w.heap.size w) nq) hb3)
  obtain ⟨HZ, HT3, HQd, HDp⟩ := (And.intro (Lib.hid (bufz_of hb3)) (And.intro (Lib.hid (HT.out.below HB3.out)) (And.intro (Lib.hid (And.intro hd0 hd1)) (Lib.hid (And.intro hp0 hp1)))))
  obtain ⟨nd, hnd, hlt, hn⟩ := numDigits_det d hd0 hd1
  have HN := Lib.hid hn
  have HNd := Lib.hid (And.intro hnd hlt)
  clear hb3 hd0 hd1 hp0 hp1 hnd hlt hn HL HT
  go_wp2_with fail
  go_region_held3 (fun wi : World => True)
    (first | exact trivial)
    (first
      | (go_at_call 84; refine (HN.out _ (HT3.out.drew)).mono ?_; rintro e w5 ⟨rfl, hd5⟩)
      | (go_at_call 113; have HD5 := Lib.hid hd5; clear hd5; refine (setDigits_any w.heap.size nd d p _ (HZ.out.drawn HD5.out) HNd.out.1 HQd.out.1 HQd.out.2 HNd.out.2 (by have := HDp.out; omega) (by have := HDp.out; omega)).mono ?_; rintro e w6 ⟨nz, hz1, rfl, ⟨ds, hds, hbd⟩, hgr⟩))
  have HD6 := Lib.hid (rebuf' HD.out HB3.out HZ.out HD5.out hgr hbd)
  have hnz : nz ≤ ds.length := by omega
  have hds2 : ds.length ≤ 20 := by have := HNd.out.1; omega
  have hp := HDp.out
  have hnd := HNd.out.1
  have HF : Hid _ := Lib.hid (fmtEFG_any ng w0 _ B w.heap.size A0 n0 c0 (nd + p) nz ds HD6.out hds2 hnz (by omega) (by omega))
  clear hgr hbd hds hnz hds2 hp hnd
  go_wp2_with fail
  refine HF.out.mono ?_
  rintro e w7 ⟨v, xs, rfl, hf⟩
  have HF : Hid (FmR w0 B (.returned v) w7) := Lib.hid ⟨v, xs, rfl, hf⟩
  clear hf
  go_wp2_with fail
  go_ret
  exact HF.out
end Go.Proofs.YtkogipaaioibaaaGreatDoor

namespace Go.Proofs.YtkogipaaioibaaaGreatDoor
set_option linter.unusedVariables false
set_option linter.unusedSimpArgs false
open Go.RowKit Go.Proofs.YtkogipaaioibaaaGreatDoorW.PrintWords Go.Proofs.YtkogipaaioibaaaGreatDoorW.PrintLast Go.Proofs.YtkogipaaioibaaaGreatDoorW.PrintMore
attribute [local go_sem] max2_int min2_int max_two min_two max_three min_three max_four min_four
open PAll (info5)
theorem ftoa_any (b : Nat) (hb : b < 18446744073709551616) (w0 w : World) (B : Nat) (A0 : Option Addr) (n0 c0 : Nat) (ht : Tb w) (D : DS w0 w B 0 0 (.slice A0 n0 c0) []) :
    Calls Tryz.prog 98 #[.slice A0 n0 c0, .float .f64 b, .int .u8 103, .int .i64 (-1)] w fun e w' => FmR w0 B e w' := by
  have hfb := run_bitsI b
  obtain ⟨x, hx⟩ : ∃ x : Int, (b : Int) = x := ⟨_, rfl⟩
  rw [hx] at hfb
  have hx0 : 0 ≤ x := by omega
  have hx1 : x < 18446744073709551616 := by omega
  clear hx
  obtain ⟨ex, hex⟩ : ∃ ex, x / 4503599627370496 % 2048 = ex := ⟨_, rfl⟩
  obtain ⟨mt, hmt⟩ : ∃ mt, x % 4503599627370496 = mt := ⟨_, rfl⟩
  have hE := exp_bits x hx0 hx1
  have hM := mant_bits x hx0 hx1
  rw [hex] at hE
  rw [hmt] at hM
  have hm0 : 0 ≤ mt := by omega
  have hm1 : mt < 4503599627370496 := by omega
  have he0 : 0 ≤ ex := by omega
  have he1 : ex ≤ 2047 := by omega
  by_cases h1 : ex = 2047
  · by_cases h2 : mt = 0
    · cases hN : (x / 9223372036854775808 != 0)
      · exact ft_if b x ex mt _ w0 w B A0 n0 c0 hfb hE hM hN h1 (by simp [h2]) rfl D
      · exact ft_it b x ex mt _ w0 w B A0 n0 c0 hfb hE hM hN h1 (by simp [h2]) rfl D
    · exact ft_nt b x ex mt _ w0 w B A0 n0 c0 hfb hE hM rfl h1 (by simp [h2]) D
  · by_cases h3 : ex = 0
    · by_cases h2 : mt = 0
      · exact ft_zero b x ex mt _ w0 w B A0 n0 c0 hfb hE hM rfl h3 h2 D
      · exact ft_s b x ex mt _ w0 w B A0 n0 c0 hfb hE hM rfl h3 (by simp [h2]) (by omega) (by omega) ht D
    · exact ft_n b x ex mt _ w0 w B A0 n0 c0 hfb hE hM rfl (mt + 4503599627370496) (by simp [h1]) (by simp [h3]) (by omega) (by omega) (mant_one mt hm0 hm1) (by simp; omega) (by omega) (by omega) ht D
def row24 : Obj := .cells (madeCells #[.int .u8 0] 24) 5 (0, 0)
theorem make24 (w : World) : (Instr.makeSlice 42 (.int .i64 0) (.int .i64 24)).run Tryz.prog w = .ok (.slice (some ⟨w.heap.size, 0, none⟩) 0 24) (w.alloc row24) := by
  obtain ⟨i, hi, h3⟩ := Option.map_eq_some_iff.mp info5
  simp only [Prod.mk.injEq] at h3
  obtain ⟨hz, hs, hbt⟩ := h3
  have h := run_make (P := Tryz.prog) w 42 5 i (.int .u8 0) Tryz.underlying42 hi hz .i64 .i64 0 ((24 : Nat) : Int) (by omega) (by omega) (by rw [hbt]; omega) (by omega)
  rw [Int.toNat_natCast, hs] at h
  exact h
theorem ds24 {w0 w : World} {B : Nat} (hb : Below B w0 w) (hB : B ≤ w.heap.size) (h0 : 0 < w.heap.size) : DS w0 (w.alloc row24) B 0 0 (.slice (some ⟨w.heap.size, 0, none⟩) 0 24) [] := by
  refine ⟨⟨[], Nat.le_refl _, fun _ h => (nomatch h), Kd.R_of_own (World.ownsRow_made w (madeCells #[.int .u8 0] 24) 24 hB (by decide) (size_madeCells _ _)) ?_⟩, BufD.nil _ _, hb.alloc hB _, ?_, ?_, by decide⟩
  · intro k hk
    have hk : w.heap.size = k := by injection hk
    omega
  · rw [World.size_alloc]; omega
  · rw [World.size_alloc]; omega
/-- What a float's text is: short, and no line feed in it. -/
def FtR (w0 : World) (B : Nat) (e : Ending) (w' : World) : Prop := ∃ t, e = .returned (.string t) ∧ NoNl (bytesOf t) ∧ t.size ≤ 100 ∧ Below B w0 w'
theorem bytesOf_strOfNumsN {l : List Int} (h : NoNl l) : bytesOf (strOfNums l) = l := by
  unfold bytesOf strOfNums
  simp only [List.map_map]
  induction l with
  | nil => rfl
  | cons a l ih =>
    have h0 := h a (by simp)
    have h1 := ih fun x hx => h x (by simp [hx])
    simp only [List.map_cons, List.cons.injEq]
    refine ⟨?_, h1⟩
    simp only [Function.comp]
    rw [UInt8.toNat_ofNat']
    omega
theorem FmR.text {w0 : World} {B : Nat} {v : Value} {w' : World} (h : FmR w0 B (.returned v) w') : ∃ A n c t, v = .slice A n c ∧ (convert 42 9 (.slice A n c)).run Tryz.prog w' = .ok (.string t) w' ∧ NoNl (bytesOf t) ∧ t.size ≤ 100 ∧ Below B w0 w' := by
  obtain ⟨_, xs, hv, h1, h2, h3, h4⟩ := h
  injection hv with hv
  subst hv
  obtain ⟨A, c, rfl⟩ := Kd.R_slice h3
  refine ⟨A, _, c, strOfNums xs, rfl, own_string (P := Tryz.prog) Tryz.underlying42 Tryz.underlying5 Tryz.underlying9 (Kd.own_of_R h3), by rw [bytesOf_strOfNumsN h2]; exact h2, ?_, h4⟩
  rw [← bytesOf_length, bytesOf_strOfNumsN h2]
  exact h1
set_option maxHeartbeats 2000000 in
set_option maxRecDepth 100000 in
theorem fmtFloat_any (b : Nat) (hb : b < 18446744073709551616) (w : World) (ht : Tb w) :
    Calls Tryz.prog 87 #[.float .f64 b, .int .u8 103, .int .i64 (-1), .int .i64 64] w fun e w' => FtR w w.heap.size e w' := by
  have hmk := make24
  have h0 : 0 < w.heap.size := by have := ht.lt; omega
  have HT := Lib.hid ht
  have HF := Lib.hid (fun W A0 n0 c0 ht D => ftoa_any b hb w W w.heap.size A0 n0 c0 ht D)
  have H0 := Lib.hid h0
  clear ht hb h0
  go_enter Tryz.func87, Tryz.ntmps87
  go_wp2_with fail
  refine (HF.out _ _ _ _ (HT.out.below (below_alloc (by first | exact Below.refl _ _ | exact pw_below_drewN (Below.refl _ _) _ | exact below_drew (Below.refl _ _)) _)) (ds24 (by first | exact Below.refl _ _ | exact pw_below_drewN (Below.refl _ _) _ | exact below_drew (Below.refl _ _)) (Nat.le_refl _) H0.out)).mono ?_
  rintro e w1 ⟨v, xs, rfl, hf⟩
  obtain ⟨A, n, c, t, rfl, hcv, h1, h2, h3⟩ := FmR.text ⟨v, xs, rfl, hf⟩
  have HR := Lib.hid (And.intro h1 (And.intro h2 h3))
  clear hf h1 h2 h3
  go_wp2_with fail
  go_ret
  exact ⟨t, rfl, HR.out.1, HR.out.2.1, HR.out.2.2⟩
set_option maxHeartbeats 2000000 in
theorem FormatFloat_any (b : Nat) (hb : b < 18446744073709551616) (w : World) (ht : Tb w) :
    Calls Tryz.prog 69 #[.float .f64 b, .int .u8 103, .int .i64 (-1), .int .i64 64] w fun e w' => FtR w w.heap.size e w' := by
  have HF := Lib.hid (fmtFloat_any b hb w ht)
  clear ht hb
  go_enter Tryz.func69, Tryz.ntmps69
  go_wp2_with fail
  refine HF.out.mono ?_
  rintro e w1 ⟨t, rfl, h1, h2, h3⟩
  have HR := Lib.hid (And.intro h1 (And.intro h2 h3))
  clear h1 h2 h3
  go_wp2_with fail
  go_ret
  exact ⟨t, rfl, HR.out.1, HR.out.2.1, HR.out.2.2⟩
end Go.Proofs.YtkogipaaioibaaaGreatDoor
