/- impl.Made: way 6. (seat r2.D; printed by gen_cm4.py) impl.Made: way 8. (seat r2.D; printed by gen_cm4.py) impl.Made: way 9. (seat r2.D; printed by gen_cm4.py) impl.Made: way 10. (seat r2.D; printed by gen_cm4.py) impl.Made: way 11. (seat r2.D; printed by gen_cm4.py) impl.Made: way 12. (seat r2.D; printed by gen_cm4.py) impl.Made: way 13. (seat r2.D; printed by gen_cm4.py) impl.Made: way 14. (seat r2.D; printed by gen_cm4.py) -/
import Derived.Test.YtnbhledkdkchlaaDoorGd
import Derived.Test.YtnbhledkdkchlaaDoorGc
namespace Go.Proofs.YtnbhledkdkchlaaDoor
set_option linter.unusedVariables false
set_option linter.unusedSimpArgs false
open Go.RowKit Go.Proofs.YtnbhledkdkchlaaDoorW.PrintWords

set_option maxHeartbeats 8000000 in
set_option maxRecDepth 100000 in
theorem im6_any (A1 A2 A3 : Option Addr) (c1 c2 c3 : Nat) (texts : List ByteArray) (nums : List Int) (bodies : List ByteArray) (w : World) (hl : texts.length ≤ 4)
    (hC1 : Kd.C Kd.string w A1 texts.length texts) (hC2 : Kd.C (Kd.int .i64) w A2 nums.length nums) (hC3 : Kd.C Kd.string w A3 bodies.length bodies) (hln : nums.length ≤ 4) (hlb : bodies.length ≤ 8)
    (hz0 : (tx texts 0).size ≤ 100) (hz1 : (tx texts 1).size ≤ 100) (hzb : ∀ s ∈ bodies, s.size ≤ 100) (ht : Tb w) :
    Calls Tryd.prog 6 #[.int .i64 6, .slice A1 texts.length c1, .slice A2 nums.length c2, .slice A3 bodies.length c3] w fun e w' => MiR w ⟨#[77, 80, 85, 66]⟩ [tx texts 0] (some (mpB bodies (strOfNums (be4 bodies.length)))) e w' := by
  have hbs := fun w s => print_bytes (P := Tryd.prog) 9 42 5 Tryd.underlying9 Tryd.underlying42 Tryd.underlying5 s w
  have hmf : ∀ (fn : Fn) (first cap : Array Value) (w : World), (Instr.makeFunc fn first cap).run Tryd.prog w = .ok (.func fn first cap) w := fun _ _ _ _ => rfl
  have HT0 := Aside0.mk (fun (wi : World) (h : MB w wi A1 texts.length c1) => txt13_any 0 w.heap.size A1 c1 texts wi (by decide) h.b5 (Kd.C_below hC1 h.bel) hl)
  have HT1 := Aside0.mk (fun (wi : World) (h : MB w wi A1 texts.length c1) => txt13_any 1 w.heap.size A1 c1 texts wi (by decide) h.b5 (Kd.C_below hC1 h.bel) hl)
  have HS := Aside0.mk (MB.start w A1 texts.length c1)
  generalize tx texts 0 = T0 at *
  generalize tx texts 1 = T1 at *
  generalize texts.length = tl at *
  have HT := Aside0.mk ht
  clear hC1 hl ht
  cases nums with
  | nil =>
    cases bodies with
    | nil =>
      have HC3 := Aside0.mk hC3
      have HZB := Aside0.mk hzb
      obtain ⟨BV, hBV⟩ : ∃ BV, mpB ([] : List ByteArray) (strOfNums (be4 (([] : List ByteArray).length : Int))) = BV := ⟨_, rfl⟩
      rw [hBV]
      have HBV := Aside0.mk hBV
      clear hBV
      clear hC2 hC3 hzb
      have HPB := Aside0.mk HS.out
      clear HS
      have HTB := Aside0.mk (HT.out.below HPB.out.bel)
      go_enter Tryd.func6, Tryd.ntmps6
      go_wp2_with fail
      refine wp_gen (F := fun wz => MB w wz A1 tl c1 ∧ w.heap.size + 2 ≤ wz.heap.size) ⟨HPB.out, blk_lt HPB.out.b8⟩ ?_
      rintro W0 ⟨hmb, hw0⟩
      have HL0 := Aside0.mk (show LL w W0 W0 A1 tl c1 (.slice none 0 0) [] [] from ⟨hmb, Nat.le_refl _, hw0, Kd.R_nil _ _ _ _ _, rfl, fun j p s hp _ => by simp at hp⟩)
      clear hmb hw0 HPB
      go_loopg [15, 17, 68] ([] : List ByteArray).length (fun gk v15 v17 v68 wr => ∃ (j : Nat) (vs v1 : Value) (ps : List (Nat × Nat × Nat)), v15 = v1 ∧ v17 = vs ∧ v68 = .int .i64 j ∧ Aside0 (j ≤ ([] : List ByteArray).length ∧ gk = ([] : List ByteArray).length - j) ∧ Aside0 (LL w W0 wr A1 tl c1 v1 ps (([] : List ByteArray).take j)))
      case atStart => exact ⟨0, _, _, [], rfl, rfl, rfl, ⟨by simp⟩, ⟨by simpa using HL0.out⟩⟩
      case round =>
        clear HL0
        obtain ⟨j, vs, v1, ps, rfl, rfl, rfl, HJ, HL⟩ := hrel
        obtain ⟨A9, c9, rfl⟩ := Kd.R_slice HL.out.row
        by_cases hj : j < ([] : List ByteArray).length
        · exact absurd hj (Nat.not_lt_zero _)
        · have hje : j = ([] : List ByteArray).length := by have := HJ.out.1; omega
          subst hje
          rw [List.take_length] at HL
          obtain ⟨Ab, cb, hv, hps⟩ := HL.out.ps
          rw [hv]
          have hmu := multi_any T0 Ab cb ([] : List ByteArray) wr (by omega) hlb HZB.out hps
          simp only [HBV.out] at hmu
          have HMU := Aside0.mk hmu
          have HPB := Aside0.mk HL.out.mb
          clear hv hps hmu HL
          go_wp2_with fail
          refine (HT0.out _ HPB.out).mono ?_
          rintro e w8 ⟨rfl, hw8⟩
          subst hw8
          go_wp2_with fail
          refine HMU.out.mono ?_
          rintro e w3 ⟨cp, rfl, hb, hcr⟩
          have HC := Aside0.mk (And.intro hcr (HPB.out.below hb))
          clear hb hcr HPB HMU
          go_wp2_with fail
          refine (command_any cp _ [T0] (some BV) _ (by simp) HC.out.1).mono ?_
          rintro e w4 ⟨v1, rfl, hb, hr⟩
          obtain ⟨A9, n9, c9, rfl⟩ : ∃ A9 n9 c9, v1 = .slice A9 n9 c9 := by obtain ⟨A, c, h⟩ := Kd.R_slice hr; exact ⟨A, _, c, h⟩
          have HM4 := Aside0.mk (HC.out.2.below hb)
          have HR := Aside0.mk (HC.out.2.row hr)
          obtain ⟨q0, q1, q2, q3⟩ := And.intro (blk_cell HM4.out.b8 0) (And.intro (blk_cell HM4.out.b8 1) (And.intro (blk_cell HM4.out.b8 2) (blk_cell HM4.out.b8 3)))
          have s0 := blk_frozen HM4.out.b8 0
          have s1 := blk_frozen HM4.out.b8 1
          have s2 := blk_frozen HM4.out.b8 2
          have s3 := blk_frozen HM4.out.b8 3
          clear hb hr HC
          simp only [Option.getD, Option.isSome]
          go_wp2_with fail
          refine bodyPost_ret (results_ct rfl _ _ (w.heap.size + 1) 30 #[.string ⟨#[77, 80, 85, 66]⟩, .slice A9 n9 c9, .string BV, .bool true] (0, 0) _ rfl HM4.out.fin.1 Tryd.underlying30 rfl (by kernel_rfl)) rfl ?_
          exact ⟨_, rfl, HM4.out.fin.2, HR.out _ _ _ _⟩
    | cons b0 bodies =>
      obtain ⟨ad3, hA3, hc3x⟩ := at_enc hC3 (j := 0) (x := b0) rfl
      subst hA3
      have hc3 : w.cell? ad3 = some (.string b0) := by simpa [Addr.add] using hc3x
      have hlt3 : ad3.block < w.heap.size := World.block_lt_of_cell? _ _ hc3
      clear hc3x
      have hzb0 : b0.size ≤ 100 := hzb b0 (by simp)
      have HC3 := Aside0.mk hC3
      have HZB := Aside0.mk hzb
      obtain ⟨BV, hBV⟩ : ∃ BV, mpB (b0 :: bodies) (strOfNums (be4 ((b0 :: bodies).length : Int))) = BV := ⟨_, rfl⟩
      rw [hBV]
      have HBV := Aside0.mk hBV
      clear hBV
      clear hC2 hC3 hzb
      have HPB := Aside0.mk (HS.out.below (bytes_below (Below.refl _ _) (Nat.le_refl _) 5 b0))
      have HTA := Aside0.mk (TA.new ((w.alloc (.cells #[.slice A1 tl c1] 22)).alloc (.cells #[.string ⟨#[]⟩, .slice none 0 0, .string ⟨#[]⟩, .bool false] 30)) b0 (by omega))
      have HTB := Aside0.mk (HT.out.below HPB.out.bel)
      rw [show ((w.alloc (.cells #[.slice A1 tl c1] 22)).alloc (.cells #[.string ⟨#[]⟩, .slice none 0 0, .string ⟨#[]⟩, .bool false] 30)).heap.size = w.heap.size + 1 + 1 by rw [World.size_alloc, World.size_alloc]] at HTA
      clear HS
      go_enter Tryd.func6, Tryd.ntmps6
      go_wp2_with fail
      refine wp_gen (F := fun wz => MB w wz A1 tl c1 ∧ w.heap.size + 2 ≤ wz.heap.size) ⟨HPB.out, blk_lt HPB.out.b8⟩ ?_
      rintro W0 ⟨hmb, hw0⟩
      have HL0 := Aside0.mk (show LL w W0 W0 A1 tl c1 (.slice none 0 0) [] [] from ⟨hmb, Nat.le_refl _, hw0, Kd.R_nil _ _ _ _ _, rfl, fun j p s hp _ => by simp at hp⟩)
      clear hmb hw0 HPB
      go_loopg [15, 17, 68] (b0 :: bodies).length (fun gk v15 v17 v68 wr => ∃ (j : Nat) (vs v1 : Value) (ps : List (Nat × Nat × Nat)), v15 = v1 ∧ v17 = vs ∧ v68 = .int .i64 j ∧ Aside0 (j ≤ (b0 :: bodies).length ∧ gk = (b0 :: bodies).length - j) ∧ Aside0 (LL w W0 wr A1 tl c1 v1 ps ((b0 :: bodies).take j)))
      case atStart => exact ⟨0, _, _, [], rfl, rfl, rfl, ⟨by simp⟩, ⟨by simpa using HL0.out⟩⟩
      case round =>
        clear HL0
        obtain ⟨j, vs, v1, ps, rfl, rfl, rfl, HJ, HL⟩ := hrel
        obtain ⟨A9, c9, rfl⟩ := Kd.R_slice HL.out.row
        by_cases hj : j < (b0 :: bodies).length
        · obtain ⟨x, hx⟩ : ∃ x, (b0 :: bodies)[j]? = some x := ⟨_, List.getElem?_eq_getElem hj⟩
          obtain ⟨ad, hA, hcx⟩ := at_enc HC3.out hx
          have hcx2 := pw_cell_below HL.out.mb.bel hcx
          (first | subst hA | (injection hA with hA; subst hA))
          have HX := Aside0.mk hx
          have hxz := HZB.out x (List.mem_of_getElem? hx)
          have HXZ := Aside0.mk hxz
          have hWB : Below wr.heap.size wr (Lib.bytesWorld wr 5 x) := bytes_below (Below.refl _ _) (Nat.le_refl _) 5 x
          have HRB := Aside0.mk (Kd.R_below HL.out.row hWB)
          have hbase : W0.heap.size ≤ (Lib.bytesWorld wr 5 x).heap.size := Nat.le_trans HL.out.ge hWB.size
          have HBQ := Aside0.mk (fun (q : Nat) (hq : (Lib.bytesWorld wr 5 x).heap.size ≤ q) => show W0.heap.size ≤ q from Nat.le_trans hbase hq)
          have hpl : ps.length ≤ 8 := by have h1 := HL.out.len; rw [List.length_take] at h1; omega
          have hlen : (ps.length + 1) * 24 ≤ 140737488355328 := by omega
          have hj1 : j < bodies.length + 1 := hj
          have hj2 : (j : Int) < (bodies.length : Int) + 1 := by omega
          have hj3 : ¬ ((bodies.length : Int) + 1 ≤ (j : Int)) := by omega
          clear hx hcx hWB
          go_wp2_with (at_builtin; refine Kd.R_append (w0 := Lib.bytesWorld wr 5 x) ksl W0.heap.size rfl (.tmp 72) (.tmp 75) 51 42 _ 24 rfl Tryd.underlying51 info42 rfl (by show 0 < 1; decide) (by decide) (.slice A9 ps.length c9) ps (wr.heap.size, x.size, grownCap wr x.size 0 5) [.slice (some ⟨wr.heap.size, 0, none⟩) x.size (grownCap wr x.size 0 5)] (fun q => W0.heap.size ≤ q) (fun _ => False) (by simp [Act.eval]) (by simp [Act.eval]) rfl (fun _ h => h.elim) HBQ.out HRB.out (Below.refl _ _) hbase hlen ?_; intro v2 w3 hr1 hb1 hg1 hat1; have HN := Aside0.mk (HL.out.next HXZ.out hr1 hb1 hg1); clear hr1 hb1 hg1 hat1)
          go_roundg ((b0 :: bodies).length - (j + 1))
          case measure => have := HJ.out.2; omega
          case rel => exact ⟨j + 1, _, _, _, rfl, rfl, by go_num, ⟨by omega⟩, ⟨by rw [List.take_add_one, HX.out]; exact HN.out⟩⟩
        · have hje : j = (b0 :: bodies).length := by have := HJ.out.1; omega
          subst hje
          rw [List.take_length] at HL
          obtain ⟨Ab, cb, hv, hps⟩ := HL.out.ps
          rw [hv]
          have hmu := multi_any T0 Ab cb (b0 :: bodies) wr (by omega) hlb HZB.out hps
          simp only [HBV.out] at hmu
          have HMU := Aside0.mk hmu
          have HPB := Aside0.mk HL.out.mb
          clear hv hps hmu HL
          go_wp2_with fail
          refine (HT0.out _ HPB.out).mono ?_
          rintro e w8 ⟨rfl, hw8⟩
          subst hw8
          go_wp2_with fail
          refine HMU.out.mono ?_
          rintro e w3 ⟨cp, rfl, hb, hcr⟩
          have HC := Aside0.mk (And.intro hcr (HPB.out.below hb))
          clear hb hcr HPB HMU
          go_wp2_with fail
          refine (command_any cp _ [T0] (some BV) _ (by simp) HC.out.1).mono ?_
          rintro e w4 ⟨v1, rfl, hb, hr⟩
          obtain ⟨A9, n9, c9, rfl⟩ : ∃ A9 n9 c9, v1 = .slice A9 n9 c9 := by obtain ⟨A, c, h⟩ := Kd.R_slice hr; exact ⟨A, _, c, h⟩
          have HM4 := Aside0.mk (HC.out.2.below hb)
          have HR := Aside0.mk (HC.out.2.row hr)
          obtain ⟨q0, q1, q2, q3⟩ := And.intro (blk_cell HM4.out.b8 0) (And.intro (blk_cell HM4.out.b8 1) (And.intro (blk_cell HM4.out.b8 2) (blk_cell HM4.out.b8 3)))
          have s0 := blk_frozen HM4.out.b8 0
          have s1 := blk_frozen HM4.out.b8 1
          have s2 := blk_frozen HM4.out.b8 2
          have s3 := blk_frozen HM4.out.b8 3
          clear hb hr HC
          simp only [Option.getD, Option.isSome]
          go_wp2_with fail
          refine bodyPost_ret (results_ct rfl _ _ (w.heap.size + 1) 30 #[.string ⟨#[77, 80, 85, 66]⟩, .slice A9 n9 c9, .string BV, .bool true] (0, 0) _ rfl HM4.out.fin.1 Tryd.underlying30 rfl (by kernel_rfl)) rfl ?_
          exact ⟨_, rfl, HM4.out.fin.2, HR.out _ _ _ _⟩
  | cons n0 nums =>
    cases bodies with
    | nil =>
      obtain ⟨ad2, hA2, hc2x⟩ := at_enc hC2 (j := 0) (x := n0) rfl
      subst hA2
      have hc2 : w.cell? ad2 = some (.int .i64 n0) := by simpa [Addr.add] using hc2x
      have hlt2 : ad2.block < w.heap.size := World.block_lt_of_cell? _ _ hc2
      clear hc2x
      have HC3 := Aside0.mk hC3
      have HZB := Aside0.mk hzb
      obtain ⟨BV, hBV⟩ : ∃ BV, mpB ([] : List ByteArray) (strOfNums (be4 (([] : List ByteArray).length : Int))) = BV := ⟨_, rfl⟩
      rw [hBV]
      have HBV := Aside0.mk hBV
      clear hBV
      clear hC2 hC3 hzb
      have HPB := Aside0.mk HS.out
      clear HS
      have HTB := Aside0.mk (HT.out.below HPB.out.bel)
      go_enter Tryd.func6, Tryd.ntmps6
      go_wp2_with fail
      refine wp_gen (F := fun wz => MB w wz A1 tl c1 ∧ w.heap.size + 2 ≤ wz.heap.size) ⟨HPB.out, blk_lt HPB.out.b8⟩ ?_
      rintro W0 ⟨hmb, hw0⟩
      have HL0 := Aside0.mk (show LL w W0 W0 A1 tl c1 (.slice none 0 0) [] [] from ⟨hmb, Nat.le_refl _, hw0, Kd.R_nil _ _ _ _ _, rfl, fun j p s hp _ => by simp at hp⟩)
      clear hmb hw0 HPB
      go_loopg [15, 17, 68] ([] : List ByteArray).length (fun gk v15 v17 v68 wr => ∃ (j : Nat) (vs v1 : Value) (ps : List (Nat × Nat × Nat)), v15 = v1 ∧ v17 = vs ∧ v68 = .int .i64 j ∧ Aside0 (j ≤ ([] : List ByteArray).length ∧ gk = ([] : List ByteArray).length - j) ∧ Aside0 (LL w W0 wr A1 tl c1 v1 ps (([] : List ByteArray).take j)))
      case atStart => exact ⟨0, _, _, [], rfl, rfl, rfl, ⟨by simp⟩, ⟨by simpa using HL0.out⟩⟩
      case round =>
        clear HL0
        obtain ⟨j, vs, v1, ps, rfl, rfl, rfl, HJ, HL⟩ := hrel
        obtain ⟨A9, c9, rfl⟩ := Kd.R_slice HL.out.row
        by_cases hj : j < ([] : List ByteArray).length
        · exact absurd hj (Nat.not_lt_zero _)
        · have hje : j = ([] : List ByteArray).length := by have := HJ.out.1; omega
          subst hje
          rw [List.take_length] at HL
          obtain ⟨Ab, cb, hv, hps⟩ := HL.out.ps
          rw [hv]
          have hmu := multi_any T0 Ab cb ([] : List ByteArray) wr (by omega) hlb HZB.out hps
          simp only [HBV.out] at hmu
          have HMU := Aside0.mk hmu
          have HPB := Aside0.mk HL.out.mb
          clear hv hps hmu HL
          go_wp2_with fail
          refine (HT0.out _ HPB.out).mono ?_
          rintro e w8 ⟨rfl, hw8⟩
          subst hw8
          go_wp2_with fail
          refine HMU.out.mono ?_
          rintro e w3 ⟨cp, rfl, hb, hcr⟩
          have HC := Aside0.mk (And.intro hcr (HPB.out.below hb))
          clear hb hcr HPB HMU
          go_wp2_with fail
          refine (command_any cp _ [T0] (some BV) _ (by simp) HC.out.1).mono ?_
          rintro e w4 ⟨v1, rfl, hb, hr⟩
          obtain ⟨A9, n9, c9, rfl⟩ : ∃ A9 n9 c9, v1 = .slice A9 n9 c9 := by obtain ⟨A, c, h⟩ := Kd.R_slice hr; exact ⟨A, _, c, h⟩
          have HM4 := Aside0.mk (HC.out.2.below hb)
          have HR := Aside0.mk (HC.out.2.row hr)
          obtain ⟨q0, q1, q2, q3⟩ := And.intro (blk_cell HM4.out.b8 0) (And.intro (blk_cell HM4.out.b8 1) (And.intro (blk_cell HM4.out.b8 2) (blk_cell HM4.out.b8 3)))
          have s0 := blk_frozen HM4.out.b8 0
          have s1 := blk_frozen HM4.out.b8 1
          have s2 := blk_frozen HM4.out.b8 2
          have s3 := blk_frozen HM4.out.b8 3
          clear hb hr HC
          simp only [Option.getD, Option.isSome]
          go_wp2_with fail
          refine bodyPost_ret (results_ct rfl _ _ (w.heap.size + 1) 30 #[.string ⟨#[77, 80, 85, 66]⟩, .slice A9 n9 c9, .string BV, .bool true] (0, 0) _ rfl HM4.out.fin.1 Tryd.underlying30 rfl (by kernel_rfl)) rfl ?_
          exact ⟨_, rfl, HM4.out.fin.2, HR.out _ _ _ _⟩
    | cons b0 bodies =>
      obtain ⟨ad2, hA2, hc2x⟩ := at_enc hC2 (j := 0) (x := n0) rfl
      subst hA2
      have hc2 : w.cell? ad2 = some (.int .i64 n0) := by simpa [Addr.add] using hc2x
      have hlt2 : ad2.block < w.heap.size := World.block_lt_of_cell? _ _ hc2
      clear hc2x
      obtain ⟨ad3, hA3, hc3x⟩ := at_enc hC3 (j := 0) (x := b0) rfl
      subst hA3
      have hc3 : w.cell? ad3 = some (.string b0) := by simpa [Addr.add] using hc3x
      have hlt3 : ad3.block < w.heap.size := World.block_lt_of_cell? _ _ hc3
      clear hc3x
      have hzb0 : b0.size ≤ 100 := hzb b0 (by simp)
      have HC3 := Aside0.mk hC3
      have HZB := Aside0.mk hzb
      obtain ⟨BV, hBV⟩ : ∃ BV, mpB (b0 :: bodies) (strOfNums (be4 ((b0 :: bodies).length : Int))) = BV := ⟨_, rfl⟩
      rw [hBV]
      have HBV := Aside0.mk hBV
      clear hBV
      clear hC2 hC3 hzb
      have HPB := Aside0.mk (HS.out.below (bytes_below (Below.refl _ _) (Nat.le_refl _) 5 b0))
      have HTA := Aside0.mk (TA.new ((w.alloc (.cells #[.slice A1 tl c1] 22)).alloc (.cells #[.string ⟨#[]⟩, .slice none 0 0, .string ⟨#[]⟩, .bool false] 30)) b0 (by omega))
      have HTB := Aside0.mk (HT.out.below HPB.out.bel)
      rw [show ((w.alloc (.cells #[.slice A1 tl c1] 22)).alloc (.cells #[.string ⟨#[]⟩, .slice none 0 0, .string ⟨#[]⟩, .bool false] 30)).heap.size = w.heap.size + 1 + 1 by rw [World.size_alloc, World.size_alloc]] at HTA
      clear HS
      go_enter Tryd.func6, Tryd.ntmps6
      go_wp2_with fail
      refine wp_gen (F := fun wz => MB w wz A1 tl c1 ∧ w.heap.size + 2 ≤ wz.heap.size) ⟨HPB.out, blk_lt HPB.out.b8⟩ ?_
      rintro W0 ⟨hmb, hw0⟩
      have HL0 := Aside0.mk (show LL w W0 W0 A1 tl c1 (.slice none 0 0) [] [] from ⟨hmb, Nat.le_refl _, hw0, Kd.R_nil _ _ _ _ _, rfl, fun j p s hp _ => by simp at hp⟩)
      clear hmb hw0 HPB
      go_loopg [15, 17, 68] (b0 :: bodies).length (fun gk v15 v17 v68 wr => ∃ (j : Nat) (vs v1 : Value) (ps : List (Nat × Nat × Nat)), v15 = v1 ∧ v17 = vs ∧ v68 = .int .i64 j ∧ Aside0 (j ≤ (b0 :: bodies).length ∧ gk = (b0 :: bodies).length - j) ∧ Aside0 (LL w W0 wr A1 tl c1 v1 ps ((b0 :: bodies).take j)))
      case atStart => exact ⟨0, _, _, [], rfl, rfl, rfl, ⟨by simp⟩, ⟨by simpa using HL0.out⟩⟩
      case round =>
        clear HL0
        obtain ⟨j, vs, v1, ps, rfl, rfl, rfl, HJ, HL⟩ := hrel
        obtain ⟨A9, c9, rfl⟩ := Kd.R_slice HL.out.row
        by_cases hj : j < (b0 :: bodies).length
        · obtain ⟨x, hx⟩ : ∃ x, (b0 :: bodies)[j]? = some x := ⟨_, List.getElem?_eq_getElem hj⟩
          obtain ⟨ad, hA, hcx⟩ := at_enc HC3.out hx
          have hcx2 := pw_cell_below HL.out.mb.bel hcx
          (first | subst hA | (injection hA with hA; subst hA))
          have HX := Aside0.mk hx
          have hxz := HZB.out x (List.mem_of_getElem? hx)
          have HXZ := Aside0.mk hxz
          have hWB : Below wr.heap.size wr (Lib.bytesWorld wr 5 x) := bytes_below (Below.refl _ _) (Nat.le_refl _) 5 x
          have HRB := Aside0.mk (Kd.R_below HL.out.row hWB)
          have hbase : W0.heap.size ≤ (Lib.bytesWorld wr 5 x).heap.size := Nat.le_trans HL.out.ge hWB.size
          have HBQ := Aside0.mk (fun (q : Nat) (hq : (Lib.bytesWorld wr 5 x).heap.size ≤ q) => show W0.heap.size ≤ q from Nat.le_trans hbase hq)
          have hpl : ps.length ≤ 8 := by have h1 := HL.out.len; rw [List.length_take] at h1; omega
          have hlen : (ps.length + 1) * 24 ≤ 140737488355328 := by omega
          have hj1 : j < bodies.length + 1 := hj
          have hj2 : (j : Int) < (bodies.length : Int) + 1 := by omega
          have hj3 : ¬ ((bodies.length : Int) + 1 ≤ (j : Int)) := by omega
          clear hx hcx hWB
          go_wp2_with (at_builtin; refine Kd.R_append (w0 := Lib.bytesWorld wr 5 x) ksl W0.heap.size rfl (.tmp 72) (.tmp 75) 51 42 _ 24 rfl Tryd.underlying51 info42 rfl (by show 0 < 1; decide) (by decide) (.slice A9 ps.length c9) ps (wr.heap.size, x.size, grownCap wr x.size 0 5) [.slice (some ⟨wr.heap.size, 0, none⟩) x.size (grownCap wr x.size 0 5)] (fun q => W0.heap.size ≤ q) (fun _ => False) (by simp [Act.eval]) (by simp [Act.eval]) rfl (fun _ h => h.elim) HBQ.out HRB.out (Below.refl _ _) hbase hlen ?_; intro v2 w3 hr1 hb1 hg1 hat1; have HN := Aside0.mk (HL.out.next HXZ.out hr1 hb1 hg1); clear hr1 hb1 hg1 hat1)
          go_roundg ((b0 :: bodies).length - (j + 1))
          case measure => have := HJ.out.2; omega
          case rel => exact ⟨j + 1, _, _, _, rfl, rfl, by go_num, ⟨by omega⟩, ⟨by rw [List.take_add_one, HX.out]; exact HN.out⟩⟩
        · have hje : j = (b0 :: bodies).length := by have := HJ.out.1; omega
          subst hje
          rw [List.take_length] at HL
          obtain ⟨Ab, cb, hv, hps⟩ := HL.out.ps
          rw [hv]
          have hmu := multi_any T0 Ab cb (b0 :: bodies) wr (by omega) hlb HZB.out hps
          simp only [HBV.out] at hmu
          have HMU := Aside0.mk hmu
          have HPB := Aside0.mk HL.out.mb
          clear hv hps hmu HL
          go_wp2_with fail
          refine (HT0.out _ HPB.out).mono ?_
          rintro e w8 ⟨rfl, hw8⟩
          subst hw8
          go_wp2_with fail
          refine HMU.out.mono ?_
          rintro e w3 ⟨cp, rfl, hb, hcr⟩
          have HC := Aside0.mk (And.intro hcr (HPB.out.below hb))
          clear hb hcr HPB HMU
          go_wp2_with fail
          refine (command_any cp _ [T0] (some BV) _ (by simp) HC.out.1).mono ?_
          rintro e w4 ⟨v1, rfl, hb, hr⟩
          obtain ⟨A9, n9, c9, rfl⟩ : ∃ A9 n9 c9, v1 = .slice A9 n9 c9 := by obtain ⟨A, c, h⟩ := Kd.R_slice hr; exact ⟨A, _, c, h⟩
          have HM4 := Aside0.mk (HC.out.2.below hb)
          have HR := Aside0.mk (HC.out.2.row hr)
          obtain ⟨q0, q1, q2, q3⟩ := And.intro (blk_cell HM4.out.b8 0) (And.intro (blk_cell HM4.out.b8 1) (And.intro (blk_cell HM4.out.b8 2) (blk_cell HM4.out.b8 3)))
          have s0 := blk_frozen HM4.out.b8 0
          have s1 := blk_frozen HM4.out.b8 1
          have s2 := blk_frozen HM4.out.b8 2
          have s3 := blk_frozen HM4.out.b8 3
          clear hb hr HC
          simp only [Option.getD, Option.isSome]
          go_wp2_with fail
          refine bodyPost_ret (results_ct rfl _ _ (w.heap.size + 1) 30 #[.string ⟨#[77, 80, 85, 66]⟩, .slice A9 n9 c9, .string BV, .bool true] (0, 0) _ rfl HM4.out.fin.1 Tryd.underlying30 rfl (by kernel_rfl)) rfl ?_
          exact ⟨_, rfl, HM4.out.fin.2, HR.out _ _ _ _⟩
end Go.Proofs.YtnbhledkdkchlaaDoor

namespace Go.Proofs.YtnbhledkdkchlaaDoor
set_option linter.unusedVariables false
set_option linter.unusedSimpArgs false
open Go.RowKit Go.Proofs.YtnbhledkdkchlaaDoorW.PrintWords

set_option maxHeartbeats 8000000 in
set_option maxRecDepth 100000 in
theorem im8_any (A1 A2 A3 : Option Addr) (c1 c2 c3 : Nat) (texts : List ByteArray) (m : Nat) (nums : List Int) (bodies : List ByteArray) (w : World) (hl : texts.length ≤ 4)
    (hC1 : Kd.C Kd.string w A1 texts.length texts) (hC2 : Kd.C (Kd.int .i64) w A2 ((m : Int) :: nums).length ((m : Int) :: nums)) (hC3 : Kd.C Kd.string w A3 bodies.length bodies) (hln : ((m : Int) :: nums).length ≤ 4) (hlb : bodies.length ≤ 8)
    (hz0 : (tx texts 0).size ≤ 100) (hz1 : (tx texts 1).size ≤ 100) (hzb : ∀ s ∈ bodies, s.size ≤ 100) (hm : m < 9223372036854775808) (ht : Tb w) :
    Calls Tryd.prog 6 #[.int .i64 8, .slice A1 texts.length c1, .slice A2 ((m : Int) :: nums).length c2, .slice A3 bodies.length c3] w fun e w' => MiR w ⟨#[82, 68, 89]⟩ [dec m] none e w' := by
  have hbs := fun w s => print_bytes (P := Tryd.prog) 9 42 5 Tryd.underlying9 Tryd.underlying42 Tryd.underlying5 s w
  have hmf : ∀ (fn : Fn) (first cap : Array Value) (w : World), (Instr.makeFunc fn first cap).run Tryd.prog w = .ok (.func fn first cap) w := fun _ _ _ _ => rfl
  have HT0 := Aside0.mk (fun (wi : World) (h : MB w wi A1 texts.length c1) => txt13_any 0 w.heap.size A1 c1 texts wi (by decide) h.b5 (Kd.C_below hC1 h.bel) hl)
  have HT1 := Aside0.mk (fun (wi : World) (h : MB w wi A1 texts.length c1) => txt13_any 1 w.heap.size A1 c1 texts wi (by decide) h.b5 (Kd.C_below hC1 h.bel) hl)
  have HS := Aside0.mk (MB.start w A1 texts.length c1)
  generalize tx texts 0 = T0 at *
  generalize tx texts 1 = T1 at *
  generalize texts.length = tl at *
  have HT := Aside0.mk ht
  clear hC1 hl ht
  have HM := Aside0.mk hm
  obtain ⟨ad2, hA2, hc2x⟩ := at_enc hC2 (j := 0) (x := (m : Int)) rfl
  subst hA2
  have hc2 : w.cell? ad2 = some (.int .i64 (m : Int)) := by simpa [Addr.add] using hc2x
  have hlt2 : ad2.block < w.heap.size := World.block_lt_of_cell? _ _ hc2
  clear hc2x
  cases bodies with
  | nil =>
    clear hC2 hC3 hzb hm
    have HPB := Aside0.mk HS.out
    clear HS
    have HTB := Aside0.mk (HT.out.below HPB.out.bel)
    go_enter Tryd.func6, Tryd.ntmps6
    go_wp2_with fail
    refine (ready_any m _ HM.out HTB.out).mono ?_
    rintro e w3 ⟨cp, rfl, hb, hcr⟩
    have HC := Aside0.mk (And.intro hcr (HPB.out.below hb))
    clear hb hcr HPB
    go_wp2_with fail
    refine (command_any cp _ [dec m] none _ (by simp) HC.out.1).mono ?_
    rintro e w4 ⟨v1, rfl, hb, hr⟩
    obtain ⟨A9, n9, c9, rfl⟩ : ∃ A9 n9 c9, v1 = .slice A9 n9 c9 := by obtain ⟨A, c, h⟩ := Kd.R_slice hr; exact ⟨A, _, c, h⟩
    have HM4 := Aside0.mk (HC.out.2.below hb)
    have HR := Aside0.mk (HC.out.2.row hr)
    obtain ⟨q0, q1, q2, q3⟩ := And.intro (blk_cell HM4.out.b8 0) (And.intro (blk_cell HM4.out.b8 1) (And.intro (blk_cell HM4.out.b8 2) (blk_cell HM4.out.b8 3)))
    have s0 := blk_frozen HM4.out.b8 0
    have s1 := blk_frozen HM4.out.b8 1
    have s2 := blk_frozen HM4.out.b8 2
    have s3 := blk_frozen HM4.out.b8 3
    clear hb hr HC
    simp only [Option.getD, Option.isSome]
    go_wp2_with fail
    refine bodyPost_ret (results_ct rfl _ _ (w.heap.size + 1) 30 #[.string ⟨#[82, 68, 89]⟩, .slice A9 n9 c9, .string ⟨#[]⟩, .bool false] (0, 0) _ rfl HM4.out.fin.1 Tryd.underlying30 rfl (by kernel_rfl)) rfl ?_
    exact ⟨_, rfl, HM4.out.fin.2, HR.out _ _ _ _⟩
  | cons b0 bodies =>
    obtain ⟨ad3, hA3, hc3x⟩ := at_enc hC3 (j := 0) (x := b0) rfl
    subst hA3
    have hc3 : w.cell? ad3 = some (.string b0) := by simpa [Addr.add] using hc3x
    have hlt3 : ad3.block < w.heap.size := World.block_lt_of_cell? _ _ hc3
    clear hc3x
    have hzb0 : b0.size ≤ 100 := hzb b0 (by simp)
    clear hC2 hC3 hzb hm
    have HPB := Aside0.mk (HS.out.below (bytes_below (Below.refl _ _) (Nat.le_refl _) 5 b0))
    have HTA := Aside0.mk (TA.new ((w.alloc (.cells #[.slice A1 tl c1] 22)).alloc (.cells #[.string ⟨#[]⟩, .slice none 0 0, .string ⟨#[]⟩, .bool false] 30)) b0 (by omega))
    have HTB := Aside0.mk (HT.out.below HPB.out.bel)
    rw [show ((w.alloc (.cells #[.slice A1 tl c1] 22)).alloc (.cells #[.string ⟨#[]⟩, .slice none 0 0, .string ⟨#[]⟩, .bool false] 30)).heap.size = w.heap.size + 1 + 1 by rw [World.size_alloc, World.size_alloc]] at HTA
    clear HS
    go_enter Tryd.func6, Tryd.ntmps6
    go_wp2_with fail
    refine (ready_any m _ HM.out HTB.out).mono ?_
    rintro e w3 ⟨cp, rfl, hb, hcr⟩
    have HC := Aside0.mk (And.intro hcr (HPB.out.below hb))
    clear hb hcr HPB
    go_wp2_with fail
    refine (command_any cp _ [dec m] none _ (by simp) HC.out.1).mono ?_
    rintro e w4 ⟨v1, rfl, hb, hr⟩
    obtain ⟨A9, n9, c9, rfl⟩ : ∃ A9 n9 c9, v1 = .slice A9 n9 c9 := by obtain ⟨A, c, h⟩ := Kd.R_slice hr; exact ⟨A, _, c, h⟩
    have HM4 := Aside0.mk (HC.out.2.below hb)
    have HR := Aside0.mk (HC.out.2.row hr)
    obtain ⟨q0, q1, q2, q3⟩ := And.intro (blk_cell HM4.out.b8 0) (And.intro (blk_cell HM4.out.b8 1) (And.intro (blk_cell HM4.out.b8 2) (blk_cell HM4.out.b8 3)))
    have s0 := blk_frozen HM4.out.b8 0
    have s1 := blk_frozen HM4.out.b8 1
    have s2 := blk_frozen HM4.out.b8 2
    have s3 := blk_frozen HM4.out.b8 3
    clear hb hr HC
    simp only [Option.getD, Option.isSome]
    go_wp2_with fail
    refine bodyPost_ret (results_ct rfl _ _ (w.heap.size + 1) 30 #[.string ⟨#[82, 68, 89]⟩, .slice A9 n9 c9, .string ⟨#[]⟩, .bool false] (0, 0) _ rfl HM4.out.fin.1 Tryd.underlying30 rfl (by kernel_rfl)) rfl ?_
    exact ⟨_, rfl, HM4.out.fin.2, HR.out _ _ _ _⟩
end Go.Proofs.YtnbhledkdkchlaaDoor

namespace Go.Proofs.YtnbhledkdkchlaaDoor
set_option linter.unusedVariables false
set_option linter.unusedSimpArgs false
open Go.RowKit Go.Proofs.YtnbhledkdkchlaaDoorW.PrintWords

set_option maxHeartbeats 8000000 in
set_option maxRecDepth 100000 in
theorem im9_any (A1 A2 A3 : Option Addr) (c1 c2 c3 : Nat) (texts : List ByteArray) (nums : List Int) (bodies : List ByteArray) (w : World) (hl : texts.length ≤ 4)
    (hC1 : Kd.C Kd.string w A1 texts.length texts) (hC2 : Kd.C (Kd.int .i64) w A2 nums.length nums) (hC3 : Kd.C Kd.string w A3 bodies.length bodies) (hln : nums.length ≤ 4) (hlb : bodies.length ≤ 8)
    (hz0 : (tx texts 0).size ≤ 100) (hz1 : (tx texts 1).size ≤ 100) (hzb : ∀ s ∈ bodies, s.size ≤ 100) (hid : (tx texts 0).size = 16) (ht : Tb w) :
    Calls Tryd.prog 6 #[.int .i64 9, .slice A1 texts.length c1, .slice A2 nums.length c2, .slice A3 bodies.length c3] w fun e w' => MiR w ⟨#[70, 73, 78]⟩ [tx texts 0] none e w' := by
  have hbs := fun w s => print_bytes (P := Tryd.prog) 9 42 5 Tryd.underlying9 Tryd.underlying42 Tryd.underlying5 s w
  have hmf : ∀ (fn : Fn) (first cap : Array Value) (w : World), (Instr.makeFunc fn first cap).run Tryd.prog w = .ok (.func fn first cap) w := fun _ _ _ _ => rfl
  have HT0 := Aside0.mk (fun (wi : World) (h : MB w wi A1 texts.length c1) => txt13_any 0 w.heap.size A1 c1 texts wi (by decide) h.b5 (Kd.C_below hC1 h.bel) hl)
  have HT1 := Aside0.mk (fun (wi : World) (h : MB w wi A1 texts.length c1) => txt13_any 1 w.heap.size A1 c1 texts wi (by decide) h.b5 (Kd.C_below hC1 h.bel) hl)
  have HS := Aside0.mk (MB.start w A1 texts.length c1)
  generalize tx texts 0 = T0 at *
  generalize tx texts 1 = T1 at *
  generalize texts.length = tl at *
  have HT := Aside0.mk ht
  clear hC1 hl ht
  have HID := Aside0.mk hid
  clear hid
  cases nums with
  | nil =>
    cases bodies with
    | nil =>
      clear hC2 hC3 hzb
      have HPB := Aside0.mk HS.out
      clear HS
      have HTB := Aside0.mk (HT.out.below HPB.out.bel)
      go_enter Tryd.func6, Tryd.ntmps6
      go_wp2_with fail
      refine (HT0.out _ HPB.out).mono ?_
      rintro e w8 ⟨rfl, rfl⟩
      go_wp2_with fail
      refine (identity_any T0 _ HID.out).mono ?_
      rintro e w2 ⟨rfl, hb⟩
      have HPB2 := Aside0.mk (HPB.out.below hb)
      clear hb HPB
      have HPB := HPB2
      clear HPB2
      go_wp2_with fail
      refine (finish_any T0 _ HID.out).mono ?_
      rintro e w3 ⟨cp, rfl, hb, hcr⟩
      have HC := Aside0.mk (And.intro hcr (HPB.out.below hb))
      clear hb hcr HPB
      go_wp2_with fail
      refine (command_any cp _ [T0] none _ (by simp) HC.out.1).mono ?_
      rintro e w4 ⟨v1, rfl, hb, hr⟩
      obtain ⟨A9, n9, c9, rfl⟩ : ∃ A9 n9 c9, v1 = .slice A9 n9 c9 := by obtain ⟨A, c, h⟩ := Kd.R_slice hr; exact ⟨A, _, c, h⟩
      have HM4 := Aside0.mk (HC.out.2.below hb)
      have HR := Aside0.mk (HC.out.2.row hr)
      obtain ⟨q0, q1, q2, q3⟩ := And.intro (blk_cell HM4.out.b8 0) (And.intro (blk_cell HM4.out.b8 1) (And.intro (blk_cell HM4.out.b8 2) (blk_cell HM4.out.b8 3)))
      have s0 := blk_frozen HM4.out.b8 0
      have s1 := blk_frozen HM4.out.b8 1
      have s2 := blk_frozen HM4.out.b8 2
      have s3 := blk_frozen HM4.out.b8 3
      clear hb hr HC
      simp only [Option.getD, Option.isSome]
      go_wp2_with fail
      refine bodyPost_ret (results_ct rfl _ _ (w.heap.size + 1) 30 #[.string ⟨#[70, 73, 78]⟩, .slice A9 n9 c9, .string ⟨#[]⟩, .bool false] (0, 0) _ rfl HM4.out.fin.1 Tryd.underlying30 rfl (by kernel_rfl)) rfl ?_
      exact ⟨_, rfl, HM4.out.fin.2, HR.out _ _ _ _⟩
    | cons b0 bodies =>
      obtain ⟨ad3, hA3, hc3x⟩ := at_enc hC3 (j := 0) (x := b0) rfl
      subst hA3
      have hc3 : w.cell? ad3 = some (.string b0) := by simpa [Addr.add] using hc3x
      have hlt3 : ad3.block < w.heap.size := World.block_lt_of_cell? _ _ hc3
      clear hc3x
      have hzb0 : b0.size ≤ 100 := hzb b0 (by simp)
      clear hC2 hC3 hzb
      have HPB := Aside0.mk (HS.out.below (bytes_below (Below.refl _ _) (Nat.le_refl _) 5 b0))
      have HTA := Aside0.mk (TA.new ((w.alloc (.cells #[.slice A1 tl c1] 22)).alloc (.cells #[.string ⟨#[]⟩, .slice none 0 0, .string ⟨#[]⟩, .bool false] 30)) b0 (by omega))
      have HTB := Aside0.mk (HT.out.below HPB.out.bel)
      rw [show ((w.alloc (.cells #[.slice A1 tl c1] 22)).alloc (.cells #[.string ⟨#[]⟩, .slice none 0 0, .string ⟨#[]⟩, .bool false] 30)).heap.size = w.heap.size + 1 + 1 by rw [World.size_alloc, World.size_alloc]] at HTA
      clear HS
      go_enter Tryd.func6, Tryd.ntmps6
      go_wp2_with fail
      refine (HT0.out _ HPB.out).mono ?_
      rintro e w8 ⟨rfl, rfl⟩
      go_wp2_with fail
      refine (identity_any T0 _ HID.out).mono ?_
      rintro e w2 ⟨rfl, hb⟩
      have HPB2 := Aside0.mk (HPB.out.below hb)
      clear hb HPB
      have HPB := HPB2
      clear HPB2
      go_wp2_with fail
      refine (finish_any T0 _ HID.out).mono ?_
      rintro e w3 ⟨cp, rfl, hb, hcr⟩
      have HC := Aside0.mk (And.intro hcr (HPB.out.below hb))
      clear hb hcr HPB
      go_wp2_with fail
      refine (command_any cp _ [T0] none _ (by simp) HC.out.1).mono ?_
      rintro e w4 ⟨v1, rfl, hb, hr⟩
      obtain ⟨A9, n9, c9, rfl⟩ : ∃ A9 n9 c9, v1 = .slice A9 n9 c9 := by obtain ⟨A, c, h⟩ := Kd.R_slice hr; exact ⟨A, _, c, h⟩
      have HM4 := Aside0.mk (HC.out.2.below hb)
      have HR := Aside0.mk (HC.out.2.row hr)
      obtain ⟨q0, q1, q2, q3⟩ := And.intro (blk_cell HM4.out.b8 0) (And.intro (blk_cell HM4.out.b8 1) (And.intro (blk_cell HM4.out.b8 2) (blk_cell HM4.out.b8 3)))
      have s0 := blk_frozen HM4.out.b8 0
      have s1 := blk_frozen HM4.out.b8 1
      have s2 := blk_frozen HM4.out.b8 2
      have s3 := blk_frozen HM4.out.b8 3
      clear hb hr HC
      simp only [Option.getD, Option.isSome]
      go_wp2_with fail
      refine bodyPost_ret (results_ct rfl _ _ (w.heap.size + 1) 30 #[.string ⟨#[70, 73, 78]⟩, .slice A9 n9 c9, .string ⟨#[]⟩, .bool false] (0, 0) _ rfl HM4.out.fin.1 Tryd.underlying30 rfl (by kernel_rfl)) rfl ?_
      exact ⟨_, rfl, HM4.out.fin.2, HR.out _ _ _ _⟩
  | cons n0 nums =>
    cases bodies with
    | nil =>
      obtain ⟨ad2, hA2, hc2x⟩ := at_enc hC2 (j := 0) (x := n0) rfl
      subst hA2
      have hc2 : w.cell? ad2 = some (.int .i64 n0) := by simpa [Addr.add] using hc2x
      have hlt2 : ad2.block < w.heap.size := World.block_lt_of_cell? _ _ hc2
      clear hc2x
      clear hC2 hC3 hzb
      have HPB := Aside0.mk HS.out
      clear HS
      have HTB := Aside0.mk (HT.out.below HPB.out.bel)
      go_enter Tryd.func6, Tryd.ntmps6
      go_wp2_with fail
      refine (HT0.out _ HPB.out).mono ?_
      rintro e w8 ⟨rfl, rfl⟩
      go_wp2_with fail
      refine (identity_any T0 _ HID.out).mono ?_
      rintro e w2 ⟨rfl, hb⟩
      have HPB2 := Aside0.mk (HPB.out.below hb)
      clear hb HPB
      have HPB := HPB2
      clear HPB2
      go_wp2_with fail
      refine (finish_any T0 _ HID.out).mono ?_
      rintro e w3 ⟨cp, rfl, hb, hcr⟩
      have HC := Aside0.mk (And.intro hcr (HPB.out.below hb))
      clear hb hcr HPB
      go_wp2_with fail
      refine (command_any cp _ [T0] none _ (by simp) HC.out.1).mono ?_
      rintro e w4 ⟨v1, rfl, hb, hr⟩
      obtain ⟨A9, n9, c9, rfl⟩ : ∃ A9 n9 c9, v1 = .slice A9 n9 c9 := by obtain ⟨A, c, h⟩ := Kd.R_slice hr; exact ⟨A, _, c, h⟩
      have HM4 := Aside0.mk (HC.out.2.below hb)
      have HR := Aside0.mk (HC.out.2.row hr)
      obtain ⟨q0, q1, q2, q3⟩ := And.intro (blk_cell HM4.out.b8 0) (And.intro (blk_cell HM4.out.b8 1) (And.intro (blk_cell HM4.out.b8 2) (blk_cell HM4.out.b8 3)))
      have s0 := blk_frozen HM4.out.b8 0
      have s1 := blk_frozen HM4.out.b8 1
      have s2 := blk_frozen HM4.out.b8 2
      have s3 := blk_frozen HM4.out.b8 3
      clear hb hr HC
      simp only [Option.getD, Option.isSome]
      go_wp2_with fail
      refine bodyPost_ret (results_ct rfl _ _ (w.heap.size + 1) 30 #[.string ⟨#[70, 73, 78]⟩, .slice A9 n9 c9, .string ⟨#[]⟩, .bool false] (0, 0) _ rfl HM4.out.fin.1 Tryd.underlying30 rfl (by kernel_rfl)) rfl ?_
      exact ⟨_, rfl, HM4.out.fin.2, HR.out _ _ _ _⟩
    | cons b0 bodies =>
      obtain ⟨ad2, hA2, hc2x⟩ := at_enc hC2 (j := 0) (x := n0) rfl
      subst hA2
      have hc2 : w.cell? ad2 = some (.int .i64 n0) := by simpa [Addr.add] using hc2x
      have hlt2 : ad2.block < w.heap.size := World.block_lt_of_cell? _ _ hc2
      clear hc2x
      obtain ⟨ad3, hA3, hc3x⟩ := at_enc hC3 (j := 0) (x := b0) rfl
      subst hA3
      have hc3 : w.cell? ad3 = some (.string b0) := by simpa [Addr.add] using hc3x
      have hlt3 : ad3.block < w.heap.size := World.block_lt_of_cell? _ _ hc3
      clear hc3x
      have hzb0 : b0.size ≤ 100 := hzb b0 (by simp)
      clear hC2 hC3 hzb
      have HPB := Aside0.mk (HS.out.below (bytes_below (Below.refl _ _) (Nat.le_refl _) 5 b0))
      have HTA := Aside0.mk (TA.new ((w.alloc (.cells #[.slice A1 tl c1] 22)).alloc (.cells #[.string ⟨#[]⟩, .slice none 0 0, .string ⟨#[]⟩, .bool false] 30)) b0 (by omega))
      have HTB := Aside0.mk (HT.out.below HPB.out.bel)
      rw [show ((w.alloc (.cells #[.slice A1 tl c1] 22)).alloc (.cells #[.string ⟨#[]⟩, .slice none 0 0, .string ⟨#[]⟩, .bool false] 30)).heap.size = w.heap.size + 1 + 1 by rw [World.size_alloc, World.size_alloc]] at HTA
      clear HS
      go_enter Tryd.func6, Tryd.ntmps6
      go_wp2_with fail
      refine (HT0.out _ HPB.out).mono ?_
      rintro e w8 ⟨rfl, rfl⟩
      go_wp2_with fail
      refine (identity_any T0 _ HID.out).mono ?_
      rintro e w2 ⟨rfl, hb⟩
      have HPB2 := Aside0.mk (HPB.out.below hb)
      clear hb HPB
      have HPB := HPB2
      clear HPB2
      go_wp2_with fail
      refine (finish_any T0 _ HID.out).mono ?_
      rintro e w3 ⟨cp, rfl, hb, hcr⟩
      have HC := Aside0.mk (And.intro hcr (HPB.out.below hb))
      clear hb hcr HPB
      go_wp2_with fail
      refine (command_any cp _ [T0] none _ (by simp) HC.out.1).mono ?_
      rintro e w4 ⟨v1, rfl, hb, hr⟩
      obtain ⟨A9, n9, c9, rfl⟩ : ∃ A9 n9 c9, v1 = .slice A9 n9 c9 := by obtain ⟨A, c, h⟩ := Kd.R_slice hr; exact ⟨A, _, c, h⟩
      have HM4 := Aside0.mk (HC.out.2.below hb)
      have HR := Aside0.mk (HC.out.2.row hr)
      obtain ⟨q0, q1, q2, q3⟩ := And.intro (blk_cell HM4.out.b8 0) (And.intro (blk_cell HM4.out.b8 1) (And.intro (blk_cell HM4.out.b8 2) (blk_cell HM4.out.b8 3)))
      have s0 := blk_frozen HM4.out.b8 0
      have s1 := blk_frozen HM4.out.b8 1
      have s2 := blk_frozen HM4.out.b8 2
      have s3 := blk_frozen HM4.out.b8 3
      clear hb hr HC
      simp only [Option.getD, Option.isSome]
      go_wp2_with fail
      refine bodyPost_ret (results_ct rfl _ _ (w.heap.size + 1) 30 #[.string ⟨#[70, 73, 78]⟩, .slice A9 n9 c9, .string ⟨#[]⟩, .bool false] (0, 0) _ rfl HM4.out.fin.1 Tryd.underlying30 rfl (by kernel_rfl)) rfl ?_
      exact ⟨_, rfl, HM4.out.fin.2, HR.out _ _ _ _⟩
end Go.Proofs.YtnbhledkdkchlaaDoor

namespace Go.Proofs.YtnbhledkdkchlaaDoor
set_option linter.unusedVariables false
set_option linter.unusedSimpArgs false
open Go.RowKit Go.Proofs.YtnbhledkdkchlaaDoorW.PrintWords

set_option maxHeartbeats 8000000 in
set_option maxRecDepth 100000 in
theorem im10_any (A1 A2 A3 : Option Addr) (c1 c2 c3 : Nat) (texts : List ByteArray) (m : Nat) (nums : List Int) (bodies : List ByteArray) (w : World) (hl : texts.length ≤ 4)
    (hC1 : Kd.C Kd.string w A1 texts.length texts) (hC2 : Kd.C (Kd.int .i64) w A2 ((m : Int) :: nums).length ((m : Int) :: nums)) (hC3 : Kd.C Kd.string w A3 bodies.length bodies) (hln : ((m : Int) :: nums).length ≤ 4) (hlb : bodies.length ≤ 8)
    (hz0 : (tx texts 0).size ≤ 100) (hz1 : (tx texts 1).size ≤ 100) (hzb : ∀ s ∈ bodies, s.size ≤ 100) (hm : m < 9223372036854775808) (hid : (tx texts 0).size = 16) (ht : Tb w) :
    Calls Tryd.prog 6 #[.int .i64 10, .slice A1 texts.length c1, .slice A2 ((m : Int) :: nums).length c2, .slice A3 bodies.length c3] w fun e w' => MiR w ⟨#[82, 69, 81]⟩ [tx texts 0, dec (m / 1000000)] none e w' := by
  have hbs := fun w s => print_bytes (P := Tryd.prog) 9 42 5 Tryd.underlying9 Tryd.underlying42 Tryd.underlying5 s w
  have hmf : ∀ (fn : Fn) (first cap : Array Value) (w : World), (Instr.makeFunc fn first cap).run Tryd.prog w = .ok (.func fn first cap) w := fun _ _ _ _ => rfl
  have HT0 := Aside0.mk (fun (wi : World) (h : MB w wi A1 texts.length c1) => txt13_any 0 w.heap.size A1 c1 texts wi (by decide) h.b5 (Kd.C_below hC1 h.bel) hl)
  have HT1 := Aside0.mk (fun (wi : World) (h : MB w wi A1 texts.length c1) => txt13_any 1 w.heap.size A1 c1 texts wi (by decide) h.b5 (Kd.C_below hC1 h.bel) hl)
  have HS := Aside0.mk (MB.start w A1 texts.length c1)
  generalize tx texts 0 = T0 at *
  generalize tx texts 1 = T1 at *
  generalize texts.length = tl at *
  have HT := Aside0.mk ht
  clear hC1 hl ht
  have HM := Aside0.mk hm
  obtain ⟨ad2, hA2, hc2x⟩ := at_enc hC2 (j := 0) (x := (m : Int)) rfl
  subst hA2
  have hc2 : w.cell? ad2 = some (.int .i64 (m : Int)) := by simpa [Addr.add] using hc2x
  have hlt2 : ad2.block < w.heap.size := World.block_lt_of_cell? _ _ hc2
  clear hc2x
  have HID := Aside0.mk hid
  clear hid
  cases bodies with
  | nil =>
    clear hC2 hC3 hzb hm
    have HPB := Aside0.mk HS.out
    clear HS
    have HTB := Aside0.mk (HT.out.below HPB.out.bel)
    go_enter Tryd.func6, Tryd.ntmps6
    go_wp2_with fail
    refine (HT0.out _ HPB.out).mono ?_
    rintro e w8 ⟨rfl, rfl⟩
    go_wp2_with fail
    refine (identity_any T0 _ HID.out).mono ?_
    rintro e w2 ⟨rfl, hb⟩
    have HPB2 := Aside0.mk (HPB.out.below hb)
    clear hb HPB
    have HPB := HPB2
    clear HPB2
    go_wp2_with fail
    refine (requeue_any T0 m _ HID.out HM.out (HT.out.below (by first | exact HPB.out.bel))).mono ?_
    rintro e w3 ⟨cp, rfl, hb, hcr⟩
    have HC := Aside0.mk (And.intro hcr (HPB.out.below hb))
    clear hb hcr HPB
    go_wp2_with fail
    refine (command_any cp _ [T0, dec (m / 1000000)] none _ (by simp) HC.out.1).mono ?_
    rintro e w4 ⟨v1, rfl, hb, hr⟩
    obtain ⟨A9, n9, c9, rfl⟩ : ∃ A9 n9 c9, v1 = .slice A9 n9 c9 := by obtain ⟨A, c, h⟩ := Kd.R_slice hr; exact ⟨A, _, c, h⟩
    have HM4 := Aside0.mk (HC.out.2.below hb)
    have HR := Aside0.mk (HC.out.2.row hr)
    obtain ⟨q0, q1, q2, q3⟩ := And.intro (blk_cell HM4.out.b8 0) (And.intro (blk_cell HM4.out.b8 1) (And.intro (blk_cell HM4.out.b8 2) (blk_cell HM4.out.b8 3)))
    have s0 := blk_frozen HM4.out.b8 0
    have s1 := blk_frozen HM4.out.b8 1
    have s2 := blk_frozen HM4.out.b8 2
    have s3 := blk_frozen HM4.out.b8 3
    clear hb hr HC
    simp only [Option.getD, Option.isSome]
    go_wp2_with fail
    refine bodyPost_ret (results_ct rfl _ _ (w.heap.size + 1) 30 #[.string ⟨#[82, 69, 81]⟩, .slice A9 n9 c9, .string ⟨#[]⟩, .bool false] (0, 0) _ rfl HM4.out.fin.1 Tryd.underlying30 rfl (by kernel_rfl)) rfl ?_
    exact ⟨_, rfl, HM4.out.fin.2, HR.out _ _ _ _⟩
  | cons b0 bodies =>
    obtain ⟨ad3, hA3, hc3x⟩ := at_enc hC3 (j := 0) (x := b0) rfl
    subst hA3
    have hc3 : w.cell? ad3 = some (.string b0) := by simpa [Addr.add] using hc3x
    have hlt3 : ad3.block < w.heap.size := World.block_lt_of_cell? _ _ hc3
    clear hc3x
    have hzb0 : b0.size ≤ 100 := hzb b0 (by simp)
    clear hC2 hC3 hzb hm
    have HPB := Aside0.mk (HS.out.below (bytes_below (Below.refl _ _) (Nat.le_refl _) 5 b0))
    have HTA := Aside0.mk (TA.new ((w.alloc (.cells #[.slice A1 tl c1] 22)).alloc (.cells #[.string ⟨#[]⟩, .slice none 0 0, .string ⟨#[]⟩, .bool false] 30)) b0 (by omega))
    have HTB := Aside0.mk (HT.out.below HPB.out.bel)
    rw [show ((w.alloc (.cells #[.slice A1 tl c1] 22)).alloc (.cells #[.string ⟨#[]⟩, .slice none 0 0, .string ⟨#[]⟩, .bool false] 30)).heap.size = w.heap.size + 1 + 1 by rw [World.size_alloc, World.size_alloc]] at HTA
    clear HS
    go_enter Tryd.func6, Tryd.ntmps6
    go_wp2_with fail
    refine (HT0.out _ HPB.out).mono ?_
    rintro e w8 ⟨rfl, rfl⟩
    go_wp2_with fail
    refine (identity_any T0 _ HID.out).mono ?_
    rintro e w2 ⟨rfl, hb⟩
    have HPB2 := Aside0.mk (HPB.out.below hb)
    clear hb HPB
    have HPB := HPB2
    clear HPB2
    go_wp2_with fail
    refine (requeue_any T0 m _ HID.out HM.out (HT.out.below (by first | exact HPB.out.bel))).mono ?_
    rintro e w3 ⟨cp, rfl, hb, hcr⟩
    have HC := Aside0.mk (And.intro hcr (HPB.out.below hb))
    clear hb hcr HPB
    go_wp2_with fail
    refine (command_any cp _ [T0, dec (m / 1000000)] none _ (by simp) HC.out.1).mono ?_
    rintro e w4 ⟨v1, rfl, hb, hr⟩
    obtain ⟨A9, n9, c9, rfl⟩ : ∃ A9 n9 c9, v1 = .slice A9 n9 c9 := by obtain ⟨A, c, h⟩ := Kd.R_slice hr; exact ⟨A, _, c, h⟩
    have HM4 := Aside0.mk (HC.out.2.below hb)
    have HR := Aside0.mk (HC.out.2.row hr)
    obtain ⟨q0, q1, q2, q3⟩ := And.intro (blk_cell HM4.out.b8 0) (And.intro (blk_cell HM4.out.b8 1) (And.intro (blk_cell HM4.out.b8 2) (blk_cell HM4.out.b8 3)))
    have s0 := blk_frozen HM4.out.b8 0
    have s1 := blk_frozen HM4.out.b8 1
    have s2 := blk_frozen HM4.out.b8 2
    have s3 := blk_frozen HM4.out.b8 3
    clear hb hr HC
    simp only [Option.getD, Option.isSome]
    go_wp2_with fail
    refine bodyPost_ret (results_ct rfl _ _ (w.heap.size + 1) 30 #[.string ⟨#[82, 69, 81]⟩, .slice A9 n9 c9, .string ⟨#[]⟩, .bool false] (0, 0) _ rfl HM4.out.fin.1 Tryd.underlying30 rfl (by kernel_rfl)) rfl ?_
    exact ⟨_, rfl, HM4.out.fin.2, HR.out _ _ _ _⟩
end Go.Proofs.YtnbhledkdkchlaaDoor

namespace Go.Proofs.YtnbhledkdkchlaaDoor
set_option linter.unusedVariables false
set_option linter.unusedSimpArgs false
open Go.RowKit Go.Proofs.YtnbhledkdkchlaaDoorW.PrintWords

set_option maxHeartbeats 8000000 in
set_option maxRecDepth 100000 in
theorem im11_any (A1 A2 A3 : Option Addr) (c1 c2 c3 : Nat) (texts : List ByteArray) (nums : List Int) (bodies : List ByteArray) (w : World) (hl : texts.length ≤ 4)
    (hC1 : Kd.C Kd.string w A1 texts.length texts) (hC2 : Kd.C (Kd.int .i64) w A2 nums.length nums) (hC3 : Kd.C Kd.string w A3 bodies.length bodies) (hln : nums.length ≤ 4) (hlb : bodies.length ≤ 8)
    (hz0 : (tx texts 0).size ≤ 100) (hz1 : (tx texts 1).size ≤ 100) (hzb : ∀ s ∈ bodies, s.size ≤ 100) (hid : (tx texts 0).size = 16) (ht : Tb w) :
    Calls Tryd.prog 6 #[.int .i64 11, .slice A1 texts.length c1, .slice A2 nums.length c2, .slice A3 bodies.length c3] w fun e w' => MiR w ⟨#[84, 79, 85, 67, 72]⟩ [tx texts 0] none e w' := by
  have hbs := fun w s => print_bytes (P := Tryd.prog) 9 42 5 Tryd.underlying9 Tryd.underlying42 Tryd.underlying5 s w
  have hmf : ∀ (fn : Fn) (first cap : Array Value) (w : World), (Instr.makeFunc fn first cap).run Tryd.prog w = .ok (.func fn first cap) w := fun _ _ _ _ => rfl
  have HT0 := Aside0.mk (fun (wi : World) (h : MB w wi A1 texts.length c1) => txt13_any 0 w.heap.size A1 c1 texts wi (by decide) h.b5 (Kd.C_below hC1 h.bel) hl)
  have HT1 := Aside0.mk (fun (wi : World) (h : MB w wi A1 texts.length c1) => txt13_any 1 w.heap.size A1 c1 texts wi (by decide) h.b5 (Kd.C_below hC1 h.bel) hl)
  have HS := Aside0.mk (MB.start w A1 texts.length c1)
  generalize tx texts 0 = T0 at *
  generalize tx texts 1 = T1 at *
  generalize texts.length = tl at *
  have HT := Aside0.mk ht
  clear hC1 hl ht
  have HID := Aside0.mk hid
  clear hid
  cases nums with
  | nil =>
    cases bodies with
    | nil =>
      clear hC2 hC3 hzb
      have HPB := Aside0.mk HS.out
      clear HS
      have HTB := Aside0.mk (HT.out.below HPB.out.bel)
      go_enter Tryd.func6, Tryd.ntmps6
      go_wp2_with fail
      refine (HT0.out _ HPB.out).mono ?_
      rintro e w8 ⟨rfl, rfl⟩
      go_wp2_with fail
      refine (identity_any T0 _ HID.out).mono ?_
      rintro e w2 ⟨rfl, hb⟩
      have HPB2 := Aside0.mk (HPB.out.below hb)
      clear hb HPB
      have HPB := HPB2
      clear HPB2
      go_wp2_with fail
      refine (touch_any T0 _ HID.out).mono ?_
      rintro e w3 ⟨cp, rfl, hb, hcr⟩
      have HC := Aside0.mk (And.intro hcr (HPB.out.below hb))
      clear hb hcr HPB
      go_wp2_with fail
      refine (command_any cp _ [T0] none _ (by simp) HC.out.1).mono ?_
      rintro e w4 ⟨v1, rfl, hb, hr⟩
      obtain ⟨A9, n9, c9, rfl⟩ : ∃ A9 n9 c9, v1 = .slice A9 n9 c9 := by obtain ⟨A, c, h⟩ := Kd.R_slice hr; exact ⟨A, _, c, h⟩
      have HM4 := Aside0.mk (HC.out.2.below hb)
      have HR := Aside0.mk (HC.out.2.row hr)
      obtain ⟨q0, q1, q2, q3⟩ := And.intro (blk_cell HM4.out.b8 0) (And.intro (blk_cell HM4.out.b8 1) (And.intro (blk_cell HM4.out.b8 2) (blk_cell HM4.out.b8 3)))
      have s0 := blk_frozen HM4.out.b8 0
      have s1 := blk_frozen HM4.out.b8 1
      have s2 := blk_frozen HM4.out.b8 2
      have s3 := blk_frozen HM4.out.b8 3
      clear hb hr HC
      simp only [Option.getD, Option.isSome]
      go_wp2_with fail
      refine bodyPost_ret (results_ct rfl _ _ (w.heap.size + 1) 30 #[.string ⟨#[84, 79, 85, 67, 72]⟩, .slice A9 n9 c9, .string ⟨#[]⟩, .bool false] (0, 0) _ rfl HM4.out.fin.1 Tryd.underlying30 rfl (by kernel_rfl)) rfl ?_
      exact ⟨_, rfl, HM4.out.fin.2, HR.out _ _ _ _⟩
    | cons b0 bodies =>
      obtain ⟨ad3, hA3, hc3x⟩ := at_enc hC3 (j := 0) (x := b0) rfl
      subst hA3
      have hc3 : w.cell? ad3 = some (.string b0) := by simpa [Addr.add] using hc3x
      have hlt3 : ad3.block < w.heap.size := World.block_lt_of_cell? _ _ hc3
      clear hc3x
      have hzb0 : b0.size ≤ 100 := hzb b0 (by simp)
      clear hC2 hC3 hzb
      have HPB := Aside0.mk (HS.out.below (bytes_below (Below.refl _ _) (Nat.le_refl _) 5 b0))
      have HTA := Aside0.mk (TA.new ((w.alloc (.cells #[.slice A1 tl c1] 22)).alloc (.cells #[.string ⟨#[]⟩, .slice none 0 0, .string ⟨#[]⟩, .bool false] 30)) b0 (by omega))
      have HTB := Aside0.mk (HT.out.below HPB.out.bel)
      rw [show ((w.alloc (.cells #[.slice A1 tl c1] 22)).alloc (.cells #[.string ⟨#[]⟩, .slice none 0 0, .string ⟨#[]⟩, .bool false] 30)).heap.size = w.heap.size + 1 + 1 by rw [World.size_alloc, World.size_alloc]] at HTA
      clear HS
      go_enter Tryd.func6, Tryd.ntmps6
      go_wp2_with fail
      refine (HT0.out _ HPB.out).mono ?_
      rintro e w8 ⟨rfl, rfl⟩
      go_wp2_with fail
      refine (identity_any T0 _ HID.out).mono ?_
      rintro e w2 ⟨rfl, hb⟩
      have HPB2 := Aside0.mk (HPB.out.below hb)
      clear hb HPB
      have HPB := HPB2
      clear HPB2
      go_wp2_with fail
      refine (touch_any T0 _ HID.out).mono ?_
      rintro e w3 ⟨cp, rfl, hb, hcr⟩
      have HC := Aside0.mk (And.intro hcr (HPB.out.below hb))
      clear hb hcr HPB
      go_wp2_with fail
      refine (command_any cp _ [T0] none _ (by simp) HC.out.1).mono ?_
      rintro e w4 ⟨v1, rfl, hb, hr⟩
      obtain ⟨A9, n9, c9, rfl⟩ : ∃ A9 n9 c9, v1 = .slice A9 n9 c9 := by obtain ⟨A, c, h⟩ := Kd.R_slice hr; exact ⟨A, _, c, h⟩
      have HM4 := Aside0.mk (HC.out.2.below hb)
      have HR := Aside0.mk (HC.out.2.row hr)
      obtain ⟨q0, q1, q2, q3⟩ := And.intro (blk_cell HM4.out.b8 0) (And.intro (blk_cell HM4.out.b8 1) (And.intro (blk_cell HM4.out.b8 2) (blk_cell HM4.out.b8 3)))
      have s0 := blk_frozen HM4.out.b8 0
      have s1 := blk_frozen HM4.out.b8 1
      have s2 := blk_frozen HM4.out.b8 2
      have s3 := blk_frozen HM4.out.b8 3
      clear hb hr HC
      simp only [Option.getD, Option.isSome]
      go_wp2_with fail
      refine bodyPost_ret (results_ct rfl _ _ (w.heap.size + 1) 30 #[.string ⟨#[84, 79, 85, 67, 72]⟩, .slice A9 n9 c9, .string ⟨#[]⟩, .bool false] (0, 0) _ rfl HM4.out.fin.1 Tryd.underlying30 rfl (by kernel_rfl)) rfl ?_
      exact ⟨_, rfl, HM4.out.fin.2, HR.out _ _ _ _⟩
  | cons n0 nums =>
    cases bodies with
    | nil =>
      obtain ⟨ad2, hA2, hc2x⟩ := at_enc hC2 (j := 0) (x := n0) rfl
      subst hA2
      have hc2 : w.cell? ad2 = some (.int .i64 n0) := by simpa [Addr.add] using hc2x
      have hlt2 : ad2.block < w.heap.size := World.block_lt_of_cell? _ _ hc2
      clear hc2x
      clear hC2 hC3 hzb
      have HPB := Aside0.mk HS.out
      clear HS
      have HTB := Aside0.mk (HT.out.below HPB.out.bel)
      go_enter Tryd.func6, Tryd.ntmps6
      go_wp2_with fail
      refine (HT0.out _ HPB.out).mono ?_
      rintro e w8 ⟨rfl, rfl⟩
      go_wp2_with fail
      refine (identity_any T0 _ HID.out).mono ?_
      rintro e w2 ⟨rfl, hb⟩
      have HPB2 := Aside0.mk (HPB.out.below hb)
      clear hb HPB
      have HPB := HPB2
      clear HPB2
      go_wp2_with fail
      refine (touch_any T0 _ HID.out).mono ?_
      rintro e w3 ⟨cp, rfl, hb, hcr⟩
      have HC := Aside0.mk (And.intro hcr (HPB.out.below hb))
      clear hb hcr HPB
      go_wp2_with fail
      refine (command_any cp _ [T0] none _ (by simp) HC.out.1).mono ?_
      rintro e w4 ⟨v1, rfl, hb, hr⟩
      obtain ⟨A9, n9, c9, rfl⟩ : ∃ A9 n9 c9, v1 = .slice A9 n9 c9 := by obtain ⟨A, c, h⟩ := Kd.R_slice hr; exact ⟨A, _, c, h⟩
      have HM4 := Aside0.mk (HC.out.2.below hb)
      have HR := Aside0.mk (HC.out.2.row hr)
      obtain ⟨q0, q1, q2, q3⟩ := And.intro (blk_cell HM4.out.b8 0) (And.intro (blk_cell HM4.out.b8 1) (And.intro (blk_cell HM4.out.b8 2) (blk_cell HM4.out.b8 3)))
      have s0 := blk_frozen HM4.out.b8 0
      have s1 := blk_frozen HM4.out.b8 1
      have s2 := blk_frozen HM4.out.b8 2
      have s3 := blk_frozen HM4.out.b8 3
      clear hb hr HC
      simp only [Option.getD, Option.isSome]
      go_wp2_with fail
      refine bodyPost_ret (results_ct rfl _ _ (w.heap.size + 1) 30 #[.string ⟨#[84, 79, 85, 67, 72]⟩, .slice A9 n9 c9, .string ⟨#[]⟩, .bool false] (0, 0) _ rfl HM4.out.fin.1 Tryd.underlying30 rfl (by kernel_rfl)) rfl ?_
      exact ⟨_, rfl, HM4.out.fin.2, HR.out _ _ _ _⟩
    | cons b0 bodies =>
      obtain ⟨ad2, hA2, hc2x⟩ := at_enc hC2 (j := 0) (x := n0) rfl
      subst hA2
      have hc2 : w.cell? ad2 = some (.int .i64 n0) := by simpa [Addr.add] using hc2x
      have hlt2 : ad2.block < w.heap.size := World.block_lt_of_cell? _ _ hc2
      clear hc2x
      obtain ⟨ad3, hA3, hc3x⟩ := at_enc hC3 (j := 0) (x := b0) rfl
      subst hA3
      have hc3 : w.cell? ad3 = some (.string b0) := by simpa [Addr.add] using hc3x
      have hlt3 : ad3.block < w.heap.size := World.block_lt_of_cell? _ _ hc3
      clear hc3x
      have hzb0 : b0.size ≤ 100 := hzb b0 (by simp)
      clear hC2 hC3 hzb
      have HPB := Aside0.mk (HS.out.below (bytes_below (Below.refl _ _) (Nat.le_refl _) 5 b0))
      have HTA := Aside0.mk (TA.new ((w.alloc (.cells #[.slice A1 tl c1] 22)).alloc (.cells #[.string ⟨#[]⟩, .slice none 0 0, .string ⟨#[]⟩, .bool false] 30)) b0 (by omega))
      have HTB := Aside0.mk (HT.out.below HPB.out.bel)
      rw [show ((w.alloc (.cells #[.slice A1 tl c1] 22)).alloc (.cells #[.string ⟨#[]⟩, .slice none 0 0, .string ⟨#[]⟩, .bool false] 30)).heap.size = w.heap.size + 1 + 1 by rw [World.size_alloc, World.size_alloc]] at HTA
      clear HS
      go_enter Tryd.func6, Tryd.ntmps6
      go_wp2_with fail
      refine (HT0.out _ HPB.out).mono ?_
      rintro e w8 ⟨rfl, rfl⟩
      go_wp2_with fail
      refine (identity_any T0 _ HID.out).mono ?_
      rintro e w2 ⟨rfl, hb⟩
      have HPB2 := Aside0.mk (HPB.out.below hb)
      clear hb HPB
      have HPB := HPB2
      clear HPB2
      go_wp2_with fail
      refine (touch_any T0 _ HID.out).mono ?_
      rintro e w3 ⟨cp, rfl, hb, hcr⟩
      have HC := Aside0.mk (And.intro hcr (HPB.out.below hb))
      clear hb hcr HPB
      go_wp2_with fail
      refine (command_any cp _ [T0] none _ (by simp) HC.out.1).mono ?_
      rintro e w4 ⟨v1, rfl, hb, hr⟩
      obtain ⟨A9, n9, c9, rfl⟩ : ∃ A9 n9 c9, v1 = .slice A9 n9 c9 := by obtain ⟨A, c, h⟩ := Kd.R_slice hr; exact ⟨A, _, c, h⟩
      have HM4 := Aside0.mk (HC.out.2.below hb)
      have HR := Aside0.mk (HC.out.2.row hr)
      obtain ⟨q0, q1, q2, q3⟩ := And.intro (blk_cell HM4.out.b8 0) (And.intro (blk_cell HM4.out.b8 1) (And.intro (blk_cell HM4.out.b8 2) (blk_cell HM4.out.b8 3)))
      have s0 := blk_frozen HM4.out.b8 0
      have s1 := blk_frozen HM4.out.b8 1
      have s2 := blk_frozen HM4.out.b8 2
      have s3 := blk_frozen HM4.out.b8 3
      clear hb hr HC
      simp only [Option.getD, Option.isSome]
      go_wp2_with fail
      refine bodyPost_ret (results_ct rfl _ _ (w.heap.size + 1) 30 #[.string ⟨#[84, 79, 85, 67, 72]⟩, .slice A9 n9 c9, .string ⟨#[]⟩, .bool false] (0, 0) _ rfl HM4.out.fin.1 Tryd.underlying30 rfl (by kernel_rfl)) rfl ?_
      exact ⟨_, rfl, HM4.out.fin.2, HR.out _ _ _ _⟩
end Go.Proofs.YtnbhledkdkchlaaDoor

namespace Go.Proofs.YtnbhledkdkchlaaDoor
set_option linter.unusedVariables false
set_option linter.unusedSimpArgs false
open Go.RowKit Go.Proofs.YtnbhledkdkchlaaDoorW.PrintWords

set_option maxHeartbeats 8000000 in
set_option maxRecDepth 100000 in
theorem im12_any (A1 A2 A3 : Option Addr) (c1 c2 c3 : Nat) (texts : List ByteArray) (nums : List Int) (bodies : List ByteArray) (w : World) (hl : texts.length ≤ 4)
    (hC1 : Kd.C Kd.string w A1 texts.length texts) (hC2 : Kd.C (Kd.int .i64) w A2 nums.length nums) (hC3 : Kd.C Kd.string w A3 bodies.length bodies) (hln : nums.length ≤ 4) (hlb : bodies.length ≤ 8)
    (hz0 : (tx texts 0).size ≤ 100) (hz1 : (tx texts 1).size ≤ 100) (hzb : ∀ s ∈ bodies, s.size ≤ 100) (ht : Tb w) :
    Calls Tryd.prog 6 #[.int .i64 12, .slice A1 texts.length c1, .slice A2 nums.length c2, .slice A3 bodies.length c3] w fun e w' => MiR w ⟨#[67, 76, 83]⟩ [] none e w' := by
  have hbs := fun w s => print_bytes (P := Tryd.prog) 9 42 5 Tryd.underlying9 Tryd.underlying42 Tryd.underlying5 s w
  have hmf : ∀ (fn : Fn) (first cap : Array Value) (w : World), (Instr.makeFunc fn first cap).run Tryd.prog w = .ok (.func fn first cap) w := fun _ _ _ _ => rfl
  have HT0 := Aside0.mk (fun (wi : World) (h : MB w wi A1 texts.length c1) => txt13_any 0 w.heap.size A1 c1 texts wi (by decide) h.b5 (Kd.C_below hC1 h.bel) hl)
  have HT1 := Aside0.mk (fun (wi : World) (h : MB w wi A1 texts.length c1) => txt13_any 1 w.heap.size A1 c1 texts wi (by decide) h.b5 (Kd.C_below hC1 h.bel) hl)
  have HS := Aside0.mk (MB.start w A1 texts.length c1)
  generalize tx texts 0 = T0 at *
  generalize tx texts 1 = T1 at *
  generalize texts.length = tl at *
  have HT := Aside0.mk ht
  clear hC1 hl ht
  cases nums with
  | nil =>
    cases bodies with
    | nil =>
      clear hC2 hC3 hzb
      have HPB := Aside0.mk HS.out
      clear HS
      have HTB := Aside0.mk (HT.out.below HPB.out.bel)
      go_enter Tryd.func6, Tryd.ntmps6
      go_wp2_with fail
      refine (close_any _).mono ?_
      rintro e w3 ⟨cp, rfl, hb, hcr⟩
      have HC := Aside0.mk (And.intro hcr (HPB.out.below hb))
      clear hb hcr HPB
      go_wp2_with fail
      refine (command_any cp _ [] none _ (by simp) HC.out.1).mono ?_
      rintro e w4 ⟨v1, rfl, hb, hr⟩
      obtain ⟨A9, n9, c9, rfl⟩ : ∃ A9 n9 c9, v1 = .slice A9 n9 c9 := by obtain ⟨A, c, h⟩ := Kd.R_slice hr; exact ⟨A, _, c, h⟩
      have HM4 := Aside0.mk (HC.out.2.below hb)
      have HR := Aside0.mk (HC.out.2.row hr)
      obtain ⟨q0, q1, q2, q3⟩ := And.intro (blk_cell HM4.out.b8 0) (And.intro (blk_cell HM4.out.b8 1) (And.intro (blk_cell HM4.out.b8 2) (blk_cell HM4.out.b8 3)))
      have s0 := blk_frozen HM4.out.b8 0
      have s1 := blk_frozen HM4.out.b8 1
      have s2 := blk_frozen HM4.out.b8 2
      have s3 := blk_frozen HM4.out.b8 3
      clear hb hr HC
      simp only [Option.getD, Option.isSome]
      go_wp2_with fail
      refine bodyPost_ret (results_ct rfl _ _ (w.heap.size + 1) 30 #[.string ⟨#[67, 76, 83]⟩, .slice A9 n9 c9, .string ⟨#[]⟩, .bool false] (0, 0) _ rfl HM4.out.fin.1 Tryd.underlying30 rfl (by kernel_rfl)) rfl ?_
      exact ⟨_, rfl, HM4.out.fin.2, HR.out _ _ _ _⟩
    | cons b0 bodies =>
      obtain ⟨ad3, hA3, hc3x⟩ := at_enc hC3 (j := 0) (x := b0) rfl
      subst hA3
      have hc3 : w.cell? ad3 = some (.string b0) := by simpa [Addr.add] using hc3x
      have hlt3 : ad3.block < w.heap.size := World.block_lt_of_cell? _ _ hc3
      clear hc3x
      have hzb0 : b0.size ≤ 100 := hzb b0 (by simp)
      clear hC2 hC3 hzb
      have HPB := Aside0.mk (HS.out.below (bytes_below (Below.refl _ _) (Nat.le_refl _) 5 b0))
      have HTA := Aside0.mk (TA.new ((w.alloc (.cells #[.slice A1 tl c1] 22)).alloc (.cells #[.string ⟨#[]⟩, .slice none 0 0, .string ⟨#[]⟩, .bool false] 30)) b0 (by omega))
      have HTB := Aside0.mk (HT.out.below HPB.out.bel)
      rw [show ((w.alloc (.cells #[.slice A1 tl c1] 22)).alloc (.cells #[.string ⟨#[]⟩, .slice none 0 0, .string ⟨#[]⟩, .bool false] 30)).heap.size = w.heap.size + 1 + 1 by rw [World.size_alloc, World.size_alloc]] at HTA
      clear HS
      go_enter Tryd.func6, Tryd.ntmps6
      go_wp2_with fail
      refine (close_any _).mono ?_
      rintro e w3 ⟨cp, rfl, hb, hcr⟩
      have HC := Aside0.mk (And.intro hcr (HPB.out.below hb))
      clear hb hcr HPB
      go_wp2_with fail
      refine (command_any cp _ [] none _ (by simp) HC.out.1).mono ?_
      rintro e w4 ⟨v1, rfl, hb, hr⟩
      obtain ⟨A9, n9, c9, rfl⟩ : ∃ A9 n9 c9, v1 = .slice A9 n9 c9 := by obtain ⟨A, c, h⟩ := Kd.R_slice hr; exact ⟨A, _, c, h⟩
      have HM4 := Aside0.mk (HC.out.2.below hb)
      have HR := Aside0.mk (HC.out.2.row hr)
      obtain ⟨q0, q1, q2, q3⟩ := And.intro (blk_cell HM4.out.b8 0) (And.intro (blk_cell HM4.out.b8 1) (And.intro (blk_cell HM4.out.b8 2) (blk_cell HM4.out.b8 3)))
      have s0 := blk_frozen HM4.out.b8 0
      have s1 := blk_frozen HM4.out.b8 1
      have s2 := blk_frozen HM4.out.b8 2
      have s3 := blk_frozen HM4.out.b8 3
      clear hb hr HC
      simp only [Option.getD, Option.isSome]
      go_wp2_with fail
      refine bodyPost_ret (results_ct rfl _ _ (w.heap.size + 1) 30 #[.string ⟨#[67, 76, 83]⟩, .slice A9 n9 c9, .string ⟨#[]⟩, .bool false] (0, 0) _ rfl HM4.out.fin.1 Tryd.underlying30 rfl (by kernel_rfl)) rfl ?_
      exact ⟨_, rfl, HM4.out.fin.2, HR.out _ _ _ _⟩
  | cons n0 nums =>
    cases bodies with
    | nil =>
      obtain ⟨ad2, hA2, hc2x⟩ := at_enc hC2 (j := 0) (x := n0) rfl
      subst hA2
      have hc2 : w.cell? ad2 = some (.int .i64 n0) := by simpa [Addr.add] using hc2x
      have hlt2 : ad2.block < w.heap.size := World.block_lt_of_cell? _ _ hc2
      clear hc2x
      clear hC2 hC3 hzb
      have HPB := Aside0.mk HS.out
      clear HS
      have HTB := Aside0.mk (HT.out.below HPB.out.bel)
      go_enter Tryd.func6, Tryd.ntmps6
      go_wp2_with fail
      refine (close_any _).mono ?_
      rintro e w3 ⟨cp, rfl, hb, hcr⟩
      have HC := Aside0.mk (And.intro hcr (HPB.out.below hb))
      clear hb hcr HPB
      go_wp2_with fail
      refine (command_any cp _ [] none _ (by simp) HC.out.1).mono ?_
      rintro e w4 ⟨v1, rfl, hb, hr⟩
      obtain ⟨A9, n9, c9, rfl⟩ : ∃ A9 n9 c9, v1 = .slice A9 n9 c9 := by obtain ⟨A, c, h⟩ := Kd.R_slice hr; exact ⟨A, _, c, h⟩
      have HM4 := Aside0.mk (HC.out.2.below hb)
      have HR := Aside0.mk (HC.out.2.row hr)
      obtain ⟨q0, q1, q2, q3⟩ := And.intro (blk_cell HM4.out.b8 0) (And.intro (blk_cell HM4.out.b8 1) (And.intro (blk_cell HM4.out.b8 2) (blk_cell HM4.out.b8 3)))
      have s0 := blk_frozen HM4.out.b8 0
      have s1 := blk_frozen HM4.out.b8 1
      have s2 := blk_frozen HM4.out.b8 2
      have s3 := blk_frozen HM4.out.b8 3
      clear hb hr HC
      simp only [Option.getD, Option.isSome]
      go_wp2_with fail
      refine bodyPost_ret (results_ct rfl _ _ (w.heap.size + 1) 30 #[.string ⟨#[67, 76, 83]⟩, .slice A9 n9 c9, .string ⟨#[]⟩, .bool false] (0, 0) _ rfl HM4.out.fin.1 Tryd.underlying30 rfl (by kernel_rfl)) rfl ?_
      exact ⟨_, rfl, HM4.out.fin.2, HR.out _ _ _ _⟩
    | cons b0 bodies =>
      obtain ⟨ad2, hA2, hc2x⟩ := at_enc hC2 (j := 0) (x := n0) rfl
      subst hA2
      have hc2 : w.cell? ad2 = some (.int .i64 n0) := by simpa [Addr.add] using hc2x
      have hlt2 : ad2.block < w.heap.size := World.block_lt_of_cell? _ _ hc2
      clear hc2x
      obtain ⟨ad3, hA3, hc3x⟩ := at_enc hC3 (j := 0) (x := b0) rfl
      subst hA3
      have hc3 : w.cell? ad3 = some (.string b0) := by simpa [Addr.add] using hc3x
      have hlt3 : ad3.block < w.heap.size := World.block_lt_of_cell? _ _ hc3
      clear hc3x
      have hzb0 : b0.size ≤ 100 := hzb b0 (by simp)
      clear hC2 hC3 hzb
      have HPB := Aside0.mk (HS.out.below (bytes_below (Below.refl _ _) (Nat.le_refl _) 5 b0))
      have HTA := Aside0.mk (TA.new ((w.alloc (.cells #[.slice A1 tl c1] 22)).alloc (.cells #[.string ⟨#[]⟩, .slice none 0 0, .string ⟨#[]⟩, .bool false] 30)) b0 (by omega))
      have HTB := Aside0.mk (HT.out.below HPB.out.bel)
      rw [show ((w.alloc (.cells #[.slice A1 tl c1] 22)).alloc (.cells #[.string ⟨#[]⟩, .slice none 0 0, .string ⟨#[]⟩, .bool false] 30)).heap.size = w.heap.size + 1 + 1 by rw [World.size_alloc, World.size_alloc]] at HTA
      clear HS
      go_enter Tryd.func6, Tryd.ntmps6
      go_wp2_with fail
      refine (close_any _).mono ?_
      rintro e w3 ⟨cp, rfl, hb, hcr⟩
      have HC := Aside0.mk (And.intro hcr (HPB.out.below hb))
      clear hb hcr HPB
      go_wp2_with fail
      refine (command_any cp _ [] none _ (by simp) HC.out.1).mono ?_
      rintro e w4 ⟨v1, rfl, hb, hr⟩
      obtain ⟨A9, n9, c9, rfl⟩ : ∃ A9 n9 c9, v1 = .slice A9 n9 c9 := by obtain ⟨A, c, h⟩ := Kd.R_slice hr; exact ⟨A, _, c, h⟩
      have HM4 := Aside0.mk (HC.out.2.below hb)
      have HR := Aside0.mk (HC.out.2.row hr)
      obtain ⟨q0, q1, q2, q3⟩ := And.intro (blk_cell HM4.out.b8 0) (And.intro (blk_cell HM4.out.b8 1) (And.intro (blk_cell HM4.out.b8 2) (blk_cell HM4.out.b8 3)))
      have s0 := blk_frozen HM4.out.b8 0
      have s1 := blk_frozen HM4.out.b8 1
      have s2 := blk_frozen HM4.out.b8 2
      have s3 := blk_frozen HM4.out.b8 3
      clear hb hr HC
      simp only [Option.getD, Option.isSome]
      go_wp2_with fail
      refine bodyPost_ret (results_ct rfl _ _ (w.heap.size + 1) 30 #[.string ⟨#[67, 76, 83]⟩, .slice A9 n9 c9, .string ⟨#[]⟩, .bool false] (0, 0) _ rfl HM4.out.fin.1 Tryd.underlying30 rfl (by kernel_rfl)) rfl ?_
      exact ⟨_, rfl, HM4.out.fin.2, HR.out _ _ _ _⟩
end Go.Proofs.YtnbhledkdkchlaaDoor

namespace Go.Proofs.YtnbhledkdkchlaaDoor
set_option linter.unusedVariables false
set_option linter.unusedSimpArgs false
open Go.RowKit Go.Proofs.YtnbhledkdkchlaaDoorW.PrintWords

set_option maxHeartbeats 8000000 in
set_option maxRecDepth 100000 in
theorem im13_any (A1 A2 A3 : Option Addr) (c1 c2 c3 : Nat) (texts : List ByteArray) (nums : List Int) (bodies : List ByteArray) (w : World) (hl : texts.length ≤ 4)
    (hC1 : Kd.C Kd.string w A1 texts.length texts) (hC2 : Kd.C (Kd.int .i64) w A2 nums.length nums) (hC3 : Kd.C Kd.string w A3 bodies.length bodies) (hln : nums.length ≤ 4) (hlb : bodies.length ≤ 8)
    (hz0 : (tx texts 0).size ≤ 100) (hz1 : (tx texts 1).size ≤ 100) (hzb : ∀ s ∈ bodies, s.size ≤ 100) (ht : Tb w) :
    Calls Tryd.prog 6 #[.int .i64 13, .slice A1 texts.length c1, .slice A2 nums.length c2, .slice A3 bodies.length c3] w fun e w' => MiR w ⟨#[78, 79, 80]⟩ [] none e w' := by
  have hbs := fun w s => print_bytes (P := Tryd.prog) 9 42 5 Tryd.underlying9 Tryd.underlying42 Tryd.underlying5 s w
  have hmf : ∀ (fn : Fn) (first cap : Array Value) (w : World), (Instr.makeFunc fn first cap).run Tryd.prog w = .ok (.func fn first cap) w := fun _ _ _ _ => rfl
  have HT0 := Aside0.mk (fun (wi : World) (h : MB w wi A1 texts.length c1) => txt13_any 0 w.heap.size A1 c1 texts wi (by decide) h.b5 (Kd.C_below hC1 h.bel) hl)
  have HT1 := Aside0.mk (fun (wi : World) (h : MB w wi A1 texts.length c1) => txt13_any 1 w.heap.size A1 c1 texts wi (by decide) h.b5 (Kd.C_below hC1 h.bel) hl)
  have HS := Aside0.mk (MB.start w A1 texts.length c1)
  generalize tx texts 0 = T0 at *
  generalize tx texts 1 = T1 at *
  generalize texts.length = tl at *
  have HT := Aside0.mk ht
  clear hC1 hl ht
  cases nums with
  | nil =>
    cases bodies with
    | nil =>
      clear hC2 hC3 hzb
      have HPB := Aside0.mk HS.out
      clear HS
      have HTB := Aside0.mk (HT.out.below HPB.out.bel)
      go_enter Tryd.func6, Tryd.ntmps6
      go_wp2_with fail
      refine (nop_any _).mono ?_
      rintro e w3 ⟨cp, rfl, hb, hcr⟩
      have HC := Aside0.mk (And.intro hcr (HPB.out.below hb))
      clear hb hcr HPB
      go_wp2_with fail
      refine (command_any cp _ [] none _ (by simp) HC.out.1).mono ?_
      rintro e w4 ⟨v1, rfl, hb, hr⟩
      obtain ⟨A9, n9, c9, rfl⟩ : ∃ A9 n9 c9, v1 = .slice A9 n9 c9 := by obtain ⟨A, c, h⟩ := Kd.R_slice hr; exact ⟨A, _, c, h⟩
      have HM4 := Aside0.mk (HC.out.2.below hb)
      have HR := Aside0.mk (HC.out.2.row hr)
      obtain ⟨q0, q1, q2, q3⟩ := And.intro (blk_cell HM4.out.b8 0) (And.intro (blk_cell HM4.out.b8 1) (And.intro (blk_cell HM4.out.b8 2) (blk_cell HM4.out.b8 3)))
      have s0 := blk_frozen HM4.out.b8 0
      have s1 := blk_frozen HM4.out.b8 1
      have s2 := blk_frozen HM4.out.b8 2
      have s3 := blk_frozen HM4.out.b8 3
      clear hb hr HC
      simp only [Option.getD, Option.isSome]
      go_wp2_with fail
      refine bodyPost_ret (results_ct rfl _ _ (w.heap.size + 1) 30 #[.string ⟨#[78, 79, 80]⟩, .slice A9 n9 c9, .string ⟨#[]⟩, .bool false] (0, 0) _ rfl HM4.out.fin.1 Tryd.underlying30 rfl (by kernel_rfl)) rfl ?_
      exact ⟨_, rfl, HM4.out.fin.2, HR.out _ _ _ _⟩
    | cons b0 bodies =>
      obtain ⟨ad3, hA3, hc3x⟩ := at_enc hC3 (j := 0) (x := b0) rfl
      subst hA3
      have hc3 : w.cell? ad3 = some (.string b0) := by simpa [Addr.add] using hc3x
      have hlt3 : ad3.block < w.heap.size := World.block_lt_of_cell? _ _ hc3
      clear hc3x
      have hzb0 : b0.size ≤ 100 := hzb b0 (by simp)
      clear hC2 hC3 hzb
      have HPB := Aside0.mk (HS.out.below (bytes_below (Below.refl _ _) (Nat.le_refl _) 5 b0))
      have HTA := Aside0.mk (TA.new ((w.alloc (.cells #[.slice A1 tl c1] 22)).alloc (.cells #[.string ⟨#[]⟩, .slice none 0 0, .string ⟨#[]⟩, .bool false] 30)) b0 (by omega))
      have HTB := Aside0.mk (HT.out.below HPB.out.bel)
      rw [show ((w.alloc (.cells #[.slice A1 tl c1] 22)).alloc (.cells #[.string ⟨#[]⟩, .slice none 0 0, .string ⟨#[]⟩, .bool false] 30)).heap.size = w.heap.size + 1 + 1 by rw [World.size_alloc, World.size_alloc]] at HTA
      clear HS
      go_enter Tryd.func6, Tryd.ntmps6
      go_wp2_with fail
      refine (nop_any _).mono ?_
      rintro e w3 ⟨cp, rfl, hb, hcr⟩
      have HC := Aside0.mk (And.intro hcr (HPB.out.below hb))
      clear hb hcr HPB
      go_wp2_with fail
      refine (command_any cp _ [] none _ (by simp) HC.out.1).mono ?_
      rintro e w4 ⟨v1, rfl, hb, hr⟩
      obtain ⟨A9, n9, c9, rfl⟩ : ∃ A9 n9 c9, v1 = .slice A9 n9 c9 := by obtain ⟨A, c, h⟩ := Kd.R_slice hr; exact ⟨A, _, c, h⟩
      have HM4 := Aside0.mk (HC.out.2.below hb)
      have HR := Aside0.mk (HC.out.2.row hr)
      obtain ⟨q0, q1, q2, q3⟩ := And.intro (blk_cell HM4.out.b8 0) (And.intro (blk_cell HM4.out.b8 1) (And.intro (blk_cell HM4.out.b8 2) (blk_cell HM4.out.b8 3)))
      have s0 := blk_frozen HM4.out.b8 0
      have s1 := blk_frozen HM4.out.b8 1
      have s2 := blk_frozen HM4.out.b8 2
      have s3 := blk_frozen HM4.out.b8 3
      clear hb hr HC
      simp only [Option.getD, Option.isSome]
      go_wp2_with fail
      refine bodyPost_ret (results_ct rfl _ _ (w.heap.size + 1) 30 #[.string ⟨#[78, 79, 80]⟩, .slice A9 n9 c9, .string ⟨#[]⟩, .bool false] (0, 0) _ rfl HM4.out.fin.1 Tryd.underlying30 rfl (by kernel_rfl)) rfl ?_
      exact ⟨_, rfl, HM4.out.fin.2, HR.out _ _ _ _⟩
  | cons n0 nums =>
    cases bodies with
    | nil =>
      obtain ⟨ad2, hA2, hc2x⟩ := at_enc hC2 (j := 0) (x := n0) rfl
      subst hA2
      have hc2 : w.cell? ad2 = some (.int .i64 n0) := by simpa [Addr.add] using hc2x
      have hlt2 : ad2.block < w.heap.size := World.block_lt_of_cell? _ _ hc2
      clear hc2x
      clear hC2 hC3 hzb
      have HPB := Aside0.mk HS.out
      clear HS
      have HTB := Aside0.mk (HT.out.below HPB.out.bel)
      go_enter Tryd.func6, Tryd.ntmps6
      go_wp2_with fail
      refine (nop_any _).mono ?_
      rintro e w3 ⟨cp, rfl, hb, hcr⟩
      have HC := Aside0.mk (And.intro hcr (HPB.out.below hb))
      clear hb hcr HPB
      go_wp2_with fail
      refine (command_any cp _ [] none _ (by simp) HC.out.1).mono ?_
      rintro e w4 ⟨v1, rfl, hb, hr⟩
      obtain ⟨A9, n9, c9, rfl⟩ : ∃ A9 n9 c9, v1 = .slice A9 n9 c9 := by obtain ⟨A, c, h⟩ := Kd.R_slice hr; exact ⟨A, _, c, h⟩
      have HM4 := Aside0.mk (HC.out.2.below hb)
      have HR := Aside0.mk (HC.out.2.row hr)
      obtain ⟨q0, q1, q2, q3⟩ := And.intro (blk_cell HM4.out.b8 0) (And.intro (blk_cell HM4.out.b8 1) (And.intro (blk_cell HM4.out.b8 2) (blk_cell HM4.out.b8 3)))
      have s0 := blk_frozen HM4.out.b8 0
      have s1 := blk_frozen HM4.out.b8 1
      have s2 := blk_frozen HM4.out.b8 2
      have s3 := blk_frozen HM4.out.b8 3
      clear hb hr HC
      simp only [Option.getD, Option.isSome]
      go_wp2_with fail
      refine bodyPost_ret (results_ct rfl _ _ (w.heap.size + 1) 30 #[.string ⟨#[78, 79, 80]⟩, .slice A9 n9 c9, .string ⟨#[]⟩, .bool false] (0, 0) _ rfl HM4.out.fin.1 Tryd.underlying30 rfl (by kernel_rfl)) rfl ?_
      exact ⟨_, rfl, HM4.out.fin.2, HR.out _ _ _ _⟩
    | cons b0 bodies =>
      obtain ⟨ad2, hA2, hc2x⟩ := at_enc hC2 (j := 0) (x := n0) rfl
      subst hA2
      have hc2 : w.cell? ad2 = some (.int .i64 n0) := by simpa [Addr.add] using hc2x
      have hlt2 : ad2.block < w.heap.size := World.block_lt_of_cell? _ _ hc2
      clear hc2x
      obtain ⟨ad3, hA3, hc3x⟩ := at_enc hC3 (j := 0) (x := b0) rfl
      subst hA3
      have hc3 : w.cell? ad3 = some (.string b0) := by simpa [Addr.add] using hc3x
      have hlt3 : ad3.block < w.heap.size := World.block_lt_of_cell? _ _ hc3
      clear hc3x
      have hzb0 : b0.size ≤ 100 := hzb b0 (by simp)
      clear hC2 hC3 hzb
      have HPB := Aside0.mk (HS.out.below (bytes_below (Below.refl _ _) (Nat.le_refl _) 5 b0))
      have HTA := Aside0.mk (TA.new ((w.alloc (.cells #[.slice A1 tl c1] 22)).alloc (.cells #[.string ⟨#[]⟩, .slice none 0 0, .string ⟨#[]⟩, .bool false] 30)) b0 (by omega))
      have HTB := Aside0.mk (HT.out.below HPB.out.bel)
      rw [show ((w.alloc (.cells #[.slice A1 tl c1] 22)).alloc (.cells #[.string ⟨#[]⟩, .slice none 0 0, .string ⟨#[]⟩, .bool false] 30)).heap.size = w.heap.size + 1 + 1 by rw [World.size_alloc, World.size_alloc]] at HTA
      clear HS
      go_enter Tryd.func6, Tryd.ntmps6
      go_wp2_with fail
      refine (nop_any _).mono ?_
      rintro e w3 ⟨cp, rfl, hb, hcr⟩
      have HC := Aside0.mk (And.intro hcr (HPB.out.below hb))
      clear hb hcr HPB
      go_wp2_with fail
      refine (command_any cp _ [] none _ (by simp) HC.out.1).mono ?_
      rintro e w4 ⟨v1, rfl, hb, hr⟩
      obtain ⟨A9, n9, c9, rfl⟩ : ∃ A9 n9 c9, v1 = .slice A9 n9 c9 := by obtain ⟨A, c, h⟩ := Kd.R_slice hr; exact ⟨A, _, c, h⟩
      have HM4 := Aside0.mk (HC.out.2.below hb)
      have HR := Aside0.mk (HC.out.2.row hr)
      obtain ⟨q0, q1, q2, q3⟩ := And.intro (blk_cell HM4.out.b8 0) (And.intro (blk_cell HM4.out.b8 1) (And.intro (blk_cell HM4.out.b8 2) (blk_cell HM4.out.b8 3)))
      have s0 := blk_frozen HM4.out.b8 0
      have s1 := blk_frozen HM4.out.b8 1
      have s2 := blk_frozen HM4.out.b8 2
      have s3 := blk_frozen HM4.out.b8 3
      clear hb hr HC
      simp only [Option.getD, Option.isSome]
      go_wp2_with fail
      refine bodyPost_ret (results_ct rfl _ _ (w.heap.size + 1) 30 #[.string ⟨#[78, 79, 80]⟩, .slice A9 n9 c9, .string ⟨#[]⟩, .bool false] (0, 0) _ rfl HM4.out.fin.1 Tryd.underlying30 rfl (by kernel_rfl)) rfl ?_
      exact ⟨_, rfl, HM4.out.fin.2, HR.out _ _ _ _⟩
end Go.Proofs.YtnbhledkdkchlaaDoor

namespace Go.Proofs.YtnbhledkdkchlaaDoor
set_option linter.unusedVariables false
set_option linter.unusedSimpArgs false
open Go.RowKit Go.Proofs.YtnbhledkdkchlaaDoorW.PrintWords

set_option maxHeartbeats 8000000 in
set_option maxRecDepth 100000 in
theorem im14_any (A1 A2 A3 : Option Addr) (c1 c2 c3 : Nat) (texts : List ByteArray) (nums : List Int) (bodies : List ByteArray) (w : World) (hl : texts.length ≤ 4)
    (hC1 : Kd.C Kd.string w A1 texts.length texts) (hC2 : Kd.C (Kd.int .i64) w A2 nums.length nums) (hC3 : Kd.C Kd.string w A3 bodies.length bodies) (hln : nums.length ≤ 4) (hlb : bodies.length ≤ 8)
    (hz0 : (tx texts 0).size ≤ 100) (hz1 : (tx texts 1).size ≤ 100) (hzb : ∀ s ∈ bodies, s.size ≤ 100) (ht : Tb w) :
    Calls Tryd.prog 6 #[.int .i64 14, .slice A1 texts.length c1, .slice A2 nums.length c2, .slice A3 bodies.length c3] w fun e w' => MiR w ⟨#[65, 85, 84, 72]⟩ [] (some (tx texts 0)) e w' := by
  have hbs := fun w s => print_bytes (P := Tryd.prog) 9 42 5 Tryd.underlying9 Tryd.underlying42 Tryd.underlying5 s w
  have hmf : ∀ (fn : Fn) (first cap : Array Value) (w : World), (Instr.makeFunc fn first cap).run Tryd.prog w = .ok (.func fn first cap) w := fun _ _ _ _ => rfl
  have HT0 := Aside0.mk (fun (wi : World) (h : MB w wi A1 texts.length c1) => txt13_any 0 w.heap.size A1 c1 texts wi (by decide) h.b5 (Kd.C_below hC1 h.bel) hl)
  have HT1 := Aside0.mk (fun (wi : World) (h : MB w wi A1 texts.length c1) => txt13_any 1 w.heap.size A1 c1 texts wi (by decide) h.b5 (Kd.C_below hC1 h.bel) hl)
  have HS := Aside0.mk (MB.start w A1 texts.length c1)
  generalize tx texts 0 = T0 at *
  generalize tx texts 1 = T1 at *
  generalize texts.length = tl at *
  have HT := Aside0.mk ht
  clear hC1 hl ht
  cases nums with
  | nil =>
    cases bodies with
    | nil =>
      clear hC2 hC3 hzb
      have HPB := Aside0.mk HS.out
      clear HS
      have HTB := Aside0.mk (HT.out.below HPB.out.bel)
      go_enter Tryd.func6, Tryd.ntmps6
      go_wp2_with fail
      refine (HT0.out _ HPB.out).mono ?_
      rintro e w8 ⟨rfl, rfl⟩
      go_wp2_with fail
      refine (auth_any T0 _ (by omega)).mono ?_
      rintro e w3 ⟨cp, rfl, hb, hcr⟩
      have HC := Aside0.mk (And.intro hcr (HPB.out.below hb))
      clear hb hcr HPB
      go_wp2_with fail
      refine (command_any cp _ [] (some (T0)) _ (by simp) HC.out.1).mono ?_
      rintro e w4 ⟨v1, rfl, hb, hr⟩
      obtain ⟨A9, n9, c9, rfl⟩ : ∃ A9 n9 c9, v1 = .slice A9 n9 c9 := by obtain ⟨A, c, h⟩ := Kd.R_slice hr; exact ⟨A, _, c, h⟩
      have HM4 := Aside0.mk (HC.out.2.below hb)
      have HR := Aside0.mk (HC.out.2.row hr)
      obtain ⟨q0, q1, q2, q3⟩ := And.intro (blk_cell HM4.out.b8 0) (And.intro (blk_cell HM4.out.b8 1) (And.intro (blk_cell HM4.out.b8 2) (blk_cell HM4.out.b8 3)))
      have s0 := blk_frozen HM4.out.b8 0
      have s1 := blk_frozen HM4.out.b8 1
      have s2 := blk_frozen HM4.out.b8 2
      have s3 := blk_frozen HM4.out.b8 3
      clear hb hr HC
      simp only [Option.getD, Option.isSome]
      go_wp2_with fail
      refine bodyPost_ret (results_ct rfl _ _ (w.heap.size + 1) 30 #[.string ⟨#[65, 85, 84, 72]⟩, .slice A9 n9 c9, .string T0, .bool true] (0, 0) _ rfl HM4.out.fin.1 Tryd.underlying30 rfl (by kernel_rfl)) rfl ?_
      exact ⟨_, rfl, HM4.out.fin.2, HR.out _ _ _ _⟩
    | cons b0 bodies =>
      obtain ⟨ad3, hA3, hc3x⟩ := at_enc hC3 (j := 0) (x := b0) rfl
      subst hA3
      have hc3 : w.cell? ad3 = some (.string b0) := by simpa [Addr.add] using hc3x
      have hlt3 : ad3.block < w.heap.size := World.block_lt_of_cell? _ _ hc3
      clear hc3x
      have hzb0 : b0.size ≤ 100 := hzb b0 (by simp)
      clear hC2 hC3 hzb
      have HPB := Aside0.mk (HS.out.below (bytes_below (Below.refl _ _) (Nat.le_refl _) 5 b0))
      have HTA := Aside0.mk (TA.new ((w.alloc (.cells #[.slice A1 tl c1] 22)).alloc (.cells #[.string ⟨#[]⟩, .slice none 0 0, .string ⟨#[]⟩, .bool false] 30)) b0 (by omega))
      have HTB := Aside0.mk (HT.out.below HPB.out.bel)
      rw [show ((w.alloc (.cells #[.slice A1 tl c1] 22)).alloc (.cells #[.string ⟨#[]⟩, .slice none 0 0, .string ⟨#[]⟩, .bool false] 30)).heap.size = w.heap.size + 1 + 1 by rw [World.size_alloc, World.size_alloc]] at HTA
      clear HS
      go_enter Tryd.func6, Tryd.ntmps6
      go_wp2_with fail
      refine (HT0.out _ HPB.out).mono ?_
      rintro e w8 ⟨rfl, rfl⟩
      go_wp2_with fail
      refine (auth_any T0 _ (by omega)).mono ?_
      rintro e w3 ⟨cp, rfl, hb, hcr⟩
      have HC := Aside0.mk (And.intro hcr (HPB.out.below hb))
      clear hb hcr HPB
      go_wp2_with fail
      refine (command_any cp _ [] (some (T0)) _ (by simp) HC.out.1).mono ?_
      rintro e w4 ⟨v1, rfl, hb, hr⟩
      obtain ⟨A9, n9, c9, rfl⟩ : ∃ A9 n9 c9, v1 = .slice A9 n9 c9 := by obtain ⟨A, c, h⟩ := Kd.R_slice hr; exact ⟨A, _, c, h⟩
      have HM4 := Aside0.mk (HC.out.2.below hb)
      have HR := Aside0.mk (HC.out.2.row hr)
      obtain ⟨q0, q1, q2, q3⟩ := And.intro (blk_cell HM4.out.b8 0) (And.intro (blk_cell HM4.out.b8 1) (And.intro (blk_cell HM4.out.b8 2) (blk_cell HM4.out.b8 3)))
      have s0 := blk_frozen HM4.out.b8 0
      have s1 := blk_frozen HM4.out.b8 1
      have s2 := blk_frozen HM4.out.b8 2
      have s3 := blk_frozen HM4.out.b8 3
      clear hb hr HC
      simp only [Option.getD, Option.isSome]
      go_wp2_with fail
      refine bodyPost_ret (results_ct rfl _ _ (w.heap.size + 1) 30 #[.string ⟨#[65, 85, 84, 72]⟩, .slice A9 n9 c9, .string T0, .bool true] (0, 0) _ rfl HM4.out.fin.1 Tryd.underlying30 rfl (by kernel_rfl)) rfl ?_
      exact ⟨_, rfl, HM4.out.fin.2, HR.out _ _ _ _⟩
  | cons n0 nums =>
    cases bodies with
    | nil =>
      obtain ⟨ad2, hA2, hc2x⟩ := at_enc hC2 (j := 0) (x := n0) rfl
      subst hA2
      have hc2 : w.cell? ad2 = some (.int .i64 n0) := by simpa [Addr.add] using hc2x
      have hlt2 : ad2.block < w.heap.size := World.block_lt_of_cell? _ _ hc2
      clear hc2x
      clear hC2 hC3 hzb
      have HPB := Aside0.mk HS.out
      clear HS
      have HTB := Aside0.mk (HT.out.below HPB.out.bel)
      go_enter Tryd.func6, Tryd.ntmps6
      go_wp2_with fail
      refine (HT0.out _ HPB.out).mono ?_
      rintro e w8 ⟨rfl, rfl⟩
      go_wp2_with fail
      refine (auth_any T0 _ (by omega)).mono ?_
      rintro e w3 ⟨cp, rfl, hb, hcr⟩
      have HC := Aside0.mk (And.intro hcr (HPB.out.below hb))
      clear hb hcr HPB
      go_wp2_with fail
      refine (command_any cp _ [] (some (T0)) _ (by simp) HC.out.1).mono ?_
      rintro e w4 ⟨v1, rfl, hb, hr⟩
      obtain ⟨A9, n9, c9, rfl⟩ : ∃ A9 n9 c9, v1 = .slice A9 n9 c9 := by obtain ⟨A, c, h⟩ := Kd.R_slice hr; exact ⟨A, _, c, h⟩
      have HM4 := Aside0.mk (HC.out.2.below hb)
      have HR := Aside0.mk (HC.out.2.row hr)
      obtain ⟨q0, q1, q2, q3⟩ := And.intro (blk_cell HM4.out.b8 0) (And.intro (blk_cell HM4.out.b8 1) (And.intro (blk_cell HM4.out.b8 2) (blk_cell HM4.out.b8 3)))
      have s0 := blk_frozen HM4.out.b8 0
      have s1 := blk_frozen HM4.out.b8 1
      have s2 := blk_frozen HM4.out.b8 2
      have s3 := blk_frozen HM4.out.b8 3
      clear hb hr HC
      simp only [Option.getD, Option.isSome]
      go_wp2_with fail
      refine bodyPost_ret (results_ct rfl _ _ (w.heap.size + 1) 30 #[.string ⟨#[65, 85, 84, 72]⟩, .slice A9 n9 c9, .string T0, .bool true] (0, 0) _ rfl HM4.out.fin.1 Tryd.underlying30 rfl (by kernel_rfl)) rfl ?_
      exact ⟨_, rfl, HM4.out.fin.2, HR.out _ _ _ _⟩
    | cons b0 bodies =>
      obtain ⟨ad2, hA2, hc2x⟩ := at_enc hC2 (j := 0) (x := n0) rfl
      subst hA2
      have hc2 : w.cell? ad2 = some (.int .i64 n0) := by simpa [Addr.add] using hc2x
      have hlt2 : ad2.block < w.heap.size := World.block_lt_of_cell? _ _ hc2
      clear hc2x
      obtain ⟨ad3, hA3, hc3x⟩ := at_enc hC3 (j := 0) (x := b0) rfl
      subst hA3
      have hc3 : w.cell? ad3 = some (.string b0) := by simpa [Addr.add] using hc3x
      have hlt3 : ad3.block < w.heap.size := World.block_lt_of_cell? _ _ hc3
      clear hc3x
      have hzb0 : b0.size ≤ 100 := hzb b0 (by simp)
      clear hC2 hC3 hzb
      have HPB := Aside0.mk (HS.out.below (bytes_below (Below.refl _ _) (Nat.le_refl _) 5 b0))
      have HTA := Aside0.mk (TA.new ((w.alloc (.cells #[.slice A1 tl c1] 22)).alloc (.cells #[.string ⟨#[]⟩, .slice none 0 0, .string ⟨#[]⟩, .bool false] 30)) b0 (by omega))
      have HTB := Aside0.mk (HT.out.below HPB.out.bel)
      rw [show ((w.alloc (.cells #[.slice A1 tl c1] 22)).alloc (.cells #[.string ⟨#[]⟩, .slice none 0 0, .string ⟨#[]⟩, .bool false] 30)).heap.size = w.heap.size + 1 + 1 by rw [World.size_alloc, World.size_alloc]] at HTA
      clear HS
      go_enter Tryd.func6, Tryd.ntmps6
      go_wp2_with fail
      refine (HT0.out _ HPB.out).mono ?_
      rintro e w8 ⟨rfl, rfl⟩
      go_wp2_with fail
      refine (auth_any T0 _ (by omega)).mono ?_
      rintro e w3 ⟨cp, rfl, hb, hcr⟩
      have HC := Aside0.mk (And.intro hcr (HPB.out.below hb))
      clear hb hcr HPB
      go_wp2_with fail
      refine (command_any cp _ [] (some (T0)) _ (by simp) HC.out.1).mono ?_
      rintro e w4 ⟨v1, rfl, hb, hr⟩
      obtain ⟨A9, n9, c9, rfl⟩ : ∃ A9 n9 c9, v1 = .slice A9 n9 c9 := by obtain ⟨A, c, h⟩ := Kd.R_slice hr; exact ⟨A, _, c, h⟩
      have HM4 := Aside0.mk (HC.out.2.below hb)
      have HR := Aside0.mk (HC.out.2.row hr)
      obtain ⟨q0, q1, q2, q3⟩ := And.intro (blk_cell HM4.out.b8 0) (And.intro (blk_cell HM4.out.b8 1) (And.intro (blk_cell HM4.out.b8 2) (blk_cell HM4.out.b8 3)))
      have s0 := blk_frozen HM4.out.b8 0
      have s1 := blk_frozen HM4.out.b8 1
      have s2 := blk_frozen HM4.out.b8 2
      have s3 := blk_frozen HM4.out.b8 3
      clear hb hr HC
      simp only [Option.getD, Option.isSome]
      go_wp2_with fail
      refine bodyPost_ret (results_ct rfl _ _ (w.heap.size + 1) 30 #[.string ⟨#[65, 85, 84, 72]⟩, .slice A9 n9 c9, .string T0, .bool true] (0, 0) _ rfl HM4.out.fin.1 Tryd.underlying30 rfl (by kernel_rfl)) rfl ?_
      exact ⟨_, rfl, HM4.out.fin.2, HR.out _ _ _ _⟩
end Go.Proofs.YtnbhledkdkchlaaDoor
