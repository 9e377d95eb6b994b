/- impl.Made: way 1. (seat r2.D; printed by gen_cm4.py) impl.Made: way 2. (seat r2.D; printed by gen_cm4.py) impl.Made: way 3. (seat r2.D; printed by gen_cm4.py) impl.Made: way 4. (seat r2.D; printed by gen_cm4.py) impl.Made: way 5. (seat r2.D; printed by gen_cm4.py) impl.Made: way 7. (seat r2.D; printed by gen_cm4.py) -/
import Derived.Test.YtnbhledkdkchlaaDoorGc
namespace Go.Proofs.YtnbhledkdkchlaaDoor
set_option linter.unusedVariables false
set_option linter.unusedSimpArgs false
open Go.RowKit Go.Proofs.YtnbhledkdkchlaaDoorW.PrintWords

set_option maxHeartbeats 8000000 in
set_option maxRecDepth 100000 in
theorem im1_any (A1 A2 A3 : Option Addr) (c1 c2 c3 : Nat) (texts : List ByteArray) (nums : List Int) (bodies : List ByteArray) (w : World) (hl : texts.length ≤ 4)
    (hC1 : Kd.C Kd.string w A1 texts.length texts) (hC2 : Kd.C (Kd.int .i64) w A2 nums.length nums) (hC3 : Kd.C Kd.string w A3 bodies.length bodies) (hln : nums.length ≤ 4) (hlb : bodies.length ≤ 8)
    (hz0 : (tx texts 0).size ≤ 100) (hz1 : (tx texts 1).size ≤ 100) (hzb : ∀ s ∈ bodies, s.size ≤ 100) (ht : Tb w) :
    Calls Tryd.prog 6 #[.int .i64 1, .slice A1 texts.length c1, .slice A2 nums.length c2, .slice A3 bodies.length c3] w fun e w' => MiR w ⟨#[82, 69, 71, 73, 83, 84, 69, 82]⟩ (if (tx texts 1).size = 0 then [tx texts 0] else [tx texts 0, tx texts 1]) none e w' := by
  have hbs := fun w s => print_bytes (P := Tryd.prog) 9 42 5 Tryd.underlying9 Tryd.underlying42 Tryd.underlying5 s w
  have hmf : ∀ (fn : Fn) (first cap : Array Value) (w : World), (Instr.makeFunc fn first cap).run Tryd.prog w = .ok (.func fn first cap) w := fun _ _ _ _ => rfl
  have HT0 := Aside0.mk (fun (wi : World) (h : MB w wi A1 texts.length c1) => txt13_any 0 w.heap.size A1 c1 texts wi (by decide) h.b5 (Kd.C_below hC1 h.bel) hl)
  have HT1 := Aside0.mk (fun (wi : World) (h : MB w wi A1 texts.length c1) => txt13_any 1 w.heap.size A1 c1 texts wi (by decide) h.b5 (Kd.C_below hC1 h.bel) hl)
  have HS := Aside0.mk (MB.start w A1 texts.length c1)
  generalize tx texts 0 = T0 at *
  generalize tx texts 1 = T1 at *
  generalize texts.length = tl at *
  have HT := Aside0.mk ht
  clear hC1 hl ht
  obtain ⟨PS, hPS⟩ : ∃ PS, (if T1.size = 0 then [T0] else [T0, T1]) = PS := ⟨_, rfl⟩
  have HRG := Aside0.mk (fun wi => register_any T0 T1 wi (by omega) (by omega))
  simp only [hPS] at HRG
  rw [hPS]
  have hpl : PS.length ≤ 8 := by rw [← hPS]; split <;> simp
  clear hPS
  cases nums with
  | nil =>
    cases bodies with
    | nil =>
      clear hC2 hC3 hzb
      have HPB := Aside0.mk HS.out
      clear HS
      have HTB := Aside0.mk (HT.out.below HPB.out.bel)
      go_enter Tryd.func6, Tryd.ntmps6
      go_wp2_with fail
      refine (HT0.out _ HPB.out).mono ?_
      rintro e w8 ⟨rfl, rfl⟩
      go_wp2_with fail
      refine (HT1.out _ HPB.out).mono ?_
      rintro e w9 ⟨rfl, rfl⟩
      go_wp2_with fail
      refine (HRG.out _).mono ?_
      rintro e w3 ⟨cp, rfl, hb, hcr⟩
      have HC := Aside0.mk (And.intro hcr (HPB.out.below hb))
      clear hb hcr HPB
      go_wp2_with fail
      refine (command_any cp _ PS none _ hpl HC.out.1).mono ?_
      rintro e w4 ⟨v1, rfl, hb, hr⟩
      obtain ⟨A9, n9, c9, rfl⟩ : ∃ A9 n9 c9, v1 = .slice A9 n9 c9 := by obtain ⟨A, c, h⟩ := Kd.R_slice hr; exact ⟨A, _, c, h⟩
      have HM4 := Aside0.mk (HC.out.2.below hb)
      have HR := Aside0.mk (HC.out.2.row hr)
      obtain ⟨q0, q1, q2, q3⟩ := And.intro (blk_cell HM4.out.b8 0) (And.intro (blk_cell HM4.out.b8 1) (And.intro (blk_cell HM4.out.b8 2) (blk_cell HM4.out.b8 3)))
      have s0 := blk_frozen HM4.out.b8 0
      have s1 := blk_frozen HM4.out.b8 1
      have s2 := blk_frozen HM4.out.b8 2
      have s3 := blk_frozen HM4.out.b8 3
      clear hb hr HC
      simp only [Option.getD, Option.isSome]
      go_wp2_with fail
      refine bodyPost_ret (results_ct rfl _ _ (w.heap.size + 1) 30 #[.string ⟨#[82, 69, 71, 73, 83, 84, 69, 82]⟩, .slice A9 n9 c9, .string ⟨#[]⟩, .bool false] (0, 0) _ rfl HM4.out.fin.1 Tryd.underlying30 rfl (by kernel_rfl)) rfl ?_
      exact ⟨_, rfl, HM4.out.fin.2, HR.out _ _ _ _⟩
    | cons b0 bodies =>
      obtain ⟨ad3, hA3, hc3x⟩ := at_enc hC3 (j := 0) (x := b0) rfl
      subst hA3
      have hc3 : w.cell? ad3 = some (.string b0) := by simpa [Addr.add] using hc3x
      have hlt3 : ad3.block < w.heap.size := World.block_lt_of_cell? _ _ hc3
      clear hc3x
      have hzb0 : b0.size ≤ 100 := hzb b0 (by simp)
      clear hC2 hC3 hzb
      have HPB := Aside0.mk (HS.out.below (bytes_below (Below.refl _ _) (Nat.le_refl _) 5 b0))
      have HTA := Aside0.mk (TA.new ((w.alloc (.cells #[.slice A1 tl c1] 22)).alloc (.cells #[.string ⟨#[]⟩, .slice none 0 0, .string ⟨#[]⟩, .bool false] 30)) b0 (by omega))
      have HTB := Aside0.mk (HT.out.below HPB.out.bel)
      rw [show ((w.alloc (.cells #[.slice A1 tl c1] 22)).alloc (.cells #[.string ⟨#[]⟩, .slice none 0 0, .string ⟨#[]⟩, .bool false] 30)).heap.size = w.heap.size + 1 + 1 by rw [World.size_alloc, World.size_alloc]] at HTA
      clear HS
      go_enter Tryd.func6, Tryd.ntmps6
      go_wp2_with fail
      refine (HT0.out _ HPB.out).mono ?_
      rintro e w8 ⟨rfl, rfl⟩
      go_wp2_with fail
      refine (HT1.out _ HPB.out).mono ?_
      rintro e w9 ⟨rfl, rfl⟩
      go_wp2_with fail
      refine (HRG.out _).mono ?_
      rintro e w3 ⟨cp, rfl, hb, hcr⟩
      have HC := Aside0.mk (And.intro hcr (HPB.out.below hb))
      clear hb hcr HPB
      go_wp2_with fail
      refine (command_any cp _ PS none _ hpl HC.out.1).mono ?_
      rintro e w4 ⟨v1, rfl, hb, hr⟩
      obtain ⟨A9, n9, c9, rfl⟩ : ∃ A9 n9 c9, v1 = .slice A9 n9 c9 := by obtain ⟨A, c, h⟩ := Kd.R_slice hr; exact ⟨A, _, c, h⟩
      have HM4 := Aside0.mk (HC.out.2.below hb)
      have HR := Aside0.mk (HC.out.2.row hr)
      obtain ⟨q0, q1, q2, q3⟩ := And.intro (blk_cell HM4.out.b8 0) (And.intro (blk_cell HM4.out.b8 1) (And.intro (blk_cell HM4.out.b8 2) (blk_cell HM4.out.b8 3)))
      have s0 := blk_frozen HM4.out.b8 0
      have s1 := blk_frozen HM4.out.b8 1
      have s2 := blk_frozen HM4.out.b8 2
      have s3 := blk_frozen HM4.out.b8 3
      clear hb hr HC
      simp only [Option.getD, Option.isSome]
      go_wp2_with fail
      refine bodyPost_ret (results_ct rfl _ _ (w.heap.size + 1) 30 #[.string ⟨#[82, 69, 71, 73, 83, 84, 69, 82]⟩, .slice A9 n9 c9, .string ⟨#[]⟩, .bool false] (0, 0) _ rfl HM4.out.fin.1 Tryd.underlying30 rfl (by kernel_rfl)) rfl ?_
      exact ⟨_, rfl, HM4.out.fin.2, HR.out _ _ _ _⟩
  | cons n0 nums =>
    cases bodies with
    | nil =>
      obtain ⟨ad2, hA2, hc2x⟩ := at_enc hC2 (j := 0) (x := n0) rfl
      subst hA2
      have hc2 : w.cell? ad2 = some (.int .i64 n0) := by simpa [Addr.add] using hc2x
      have hlt2 : ad2.block < w.heap.size := World.block_lt_of_cell? _ _ hc2
      clear hc2x
      clear hC2 hC3 hzb
      have HPB := Aside0.mk HS.out
      clear HS
      have HTB := Aside0.mk (HT.out.below HPB.out.bel)
      go_enter Tryd.func6, Tryd.ntmps6
      go_wp2_with fail
      refine (HT0.out _ HPB.out).mono ?_
      rintro e w8 ⟨rfl, rfl⟩
      go_wp2_with fail
      refine (HT1.out _ HPB.out).mono ?_
      rintro e w9 ⟨rfl, rfl⟩
      go_wp2_with fail
      refine (HRG.out _).mono ?_
      rintro e w3 ⟨cp, rfl, hb, hcr⟩
      have HC := Aside0.mk (And.intro hcr (HPB.out.below hb))
      clear hb hcr HPB
      go_wp2_with fail
      refine (command_any cp _ PS none _ hpl HC.out.1).mono ?_
      rintro e w4 ⟨v1, rfl, hb, hr⟩
      obtain ⟨A9, n9, c9, rfl⟩ : ∃ A9 n9 c9, v1 = .slice A9 n9 c9 := by obtain ⟨A, c, h⟩ := Kd.R_slice hr; exact ⟨A, _, c, h⟩
      have HM4 := Aside0.mk (HC.out.2.below hb)
      have HR := Aside0.mk (HC.out.2.row hr)
      obtain ⟨q0, q1, q2, q3⟩ := And.intro (blk_cell HM4.out.b8 0) (And.intro (blk_cell HM4.out.b8 1) (And.intro (blk_cell HM4.out.b8 2) (blk_cell HM4.out.b8 3)))
      have s0 := blk_frozen HM4.out.b8 0
      have s1 := blk_frozen HM4.out.b8 1
      have s2 := blk_frozen HM4.out.b8 2
      have s3 := blk_frozen HM4.out.b8 3
      clear hb hr HC
      simp only [Option.getD, Option.isSome]
      go_wp2_with fail
      refine bodyPost_ret (results_ct rfl _ _ (w.heap.size + 1) 30 #[.string ⟨#[82, 69, 71, 73, 83, 84, 69, 82]⟩, .slice A9 n9 c9, .string ⟨#[]⟩, .bool false] (0, 0) _ rfl HM4.out.fin.1 Tryd.underlying30 rfl (by kernel_rfl)) rfl ?_
      exact ⟨_, rfl, HM4.out.fin.2, HR.out _ _ _ _⟩
    | cons b0 bodies =>
      obtain ⟨ad2, hA2, hc2x⟩ := at_enc hC2 (j := 0) (x := n0) rfl
      subst hA2
      have hc2 : w.cell? ad2 = some (.int .i64 n0) := by simpa [Addr.add] using hc2x
      have hlt2 : ad2.block < w.heap.size := World.block_lt_of_cell? _ _ hc2
      clear hc2x
      obtain ⟨ad3, hA3, hc3x⟩ := at_enc hC3 (j := 0) (x := b0) rfl
      subst hA3
      have hc3 : w.cell? ad3 = some (.string b0) := by simpa [Addr.add] using hc3x
      have hlt3 : ad3.block < w.heap.size := World.block_lt_of_cell? _ _ hc3
      clear hc3x
      have hzb0 : b0.size ≤ 100 := hzb b0 (by simp)
      clear hC2 hC3 hzb
      have HPB := Aside0.mk (HS.out.below (bytes_below (Below.refl _ _) (Nat.le_refl _) 5 b0))
      have HTA := Aside0.mk (TA.new ((w.alloc (.cells #[.slice A1 tl c1] 22)).alloc (.cells #[.string ⟨#[]⟩, .slice none 0 0, .string ⟨#[]⟩, .bool false] 30)) b0 (by omega))
      have HTB := Aside0.mk (HT.out.below HPB.out.bel)
      rw [show ((w.alloc (.cells #[.slice A1 tl c1] 22)).alloc (.cells #[.string ⟨#[]⟩, .slice none 0 0, .string ⟨#[]⟩, .bool false] 30)).heap.size = w.heap.size + 1 + 1 by rw [World.size_alloc, World.size_alloc]] at HTA
      clear HS
      go_enter Tryd.func6, Tryd.ntmps6
      go_wp2_with fail
      refine (HT0.out _ HPB.out).mono ?_
      rintro e w8 ⟨rfl, rfl⟩
      go_wp2_with fail
      refine (HT1.out _ HPB.out).mono ?_
      rintro e w9 ⟨rfl, rfl⟩
      go_wp2_with fail
      refine (HRG.out _).mono ?_
      rintro e w3 ⟨cp, rfl, hb, hcr⟩
      have HC := Aside0.mk (And.intro hcr (HPB.out.below hb))
      clear hb hcr HPB
      go_wp2_with fail
      refine (command_any cp _ PS none _ hpl HC.out.1).mono ?_
      rintro e w4 ⟨v1, rfl, hb, hr⟩
      obtain ⟨A9, n9, c9, rfl⟩ : ∃ A9 n9 c9, v1 = .slice A9 n9 c9 := by obtain ⟨A, c, h⟩ := Kd.R_slice hr; exact ⟨A, _, c, h⟩
      have HM4 := Aside0.mk (HC.out.2.below hb)
      have HR := Aside0.mk (HC.out.2.row hr)
      obtain ⟨q0, q1, q2, q3⟩ := And.intro (blk_cell HM4.out.b8 0) (And.intro (blk_cell HM4.out.b8 1) (And.intro (blk_cell HM4.out.b8 2) (blk_cell HM4.out.b8 3)))
      have s0 := blk_frozen HM4.out.b8 0
      have s1 := blk_frozen HM4.out.b8 1
      have s2 := blk_frozen HM4.out.b8 2
      have s3 := blk_frozen HM4.out.b8 3
      clear hb hr HC
      simp only [Option.getD, Option.isSome]
      go_wp2_with fail
      refine bodyPost_ret (results_ct rfl _ _ (w.heap.size + 1) 30 #[.string ⟨#[82, 69, 71, 73, 83, 84, 69, 82]⟩, .slice A9 n9 c9, .string ⟨#[]⟩, .bool false] (0, 0) _ rfl HM4.out.fin.1 Tryd.underlying30 rfl (by kernel_rfl)) rfl ?_
      exact ⟨_, rfl, HM4.out.fin.2, HR.out _ _ _ _⟩
end Go.Proofs.YtnbhledkdkchlaaDoor

namespace Go.Proofs.YtnbhledkdkchlaaDoor
set_option linter.unusedVariables false
set_option linter.unusedSimpArgs false
open Go.RowKit Go.Proofs.YtnbhledkdkchlaaDoorW.PrintWords

set_option maxHeartbeats 8000000 in
set_option maxRecDepth 100000 in
theorem im2_any (A1 A2 A3 : Option Addr) (c1 c2 c3 : Nat) (texts : List ByteArray) (nums : List Int) (bodies : List ByteArray) (w : World) (hl : texts.length ≤ 4)
    (hC1 : Kd.C Kd.string w A1 texts.length texts) (hC2 : Kd.C (Kd.int .i64) w A2 nums.length nums) (hC3 : Kd.C Kd.string w A3 bodies.length bodies) (hln : nums.length ≤ 4) (hlb : bodies.length ≤ 8)
    (hz0 : (tx texts 0).size ≤ 100) (hz1 : (tx texts 1).size ≤ 100) (hzb : ∀ s ∈ bodies, s.size ≤ 100) (ht : Tb w) :
    Calls Tryd.prog 6 #[.int .i64 2, .slice A1 texts.length c1, .slice A2 nums.length c2, .slice A3 bodies.length c3] w fun e w' => MiR w ⟨#[85, 78, 82, 69, 71, 73, 83, 84, 69, 82]⟩ (if (tx texts 1).size = 0 then [tx texts 0] else [tx texts 0, tx texts 1]) none e w' := by
  have hbs := fun w s => print_bytes (P := Tryd.prog) 9 42 5 Tryd.underlying9 Tryd.underlying42 Tryd.underlying5 s w
  have hmf : ∀ (fn : Fn) (first cap : Array Value) (w : World), (Instr.makeFunc fn first cap).run Tryd.prog w = .ok (.func fn first cap) w := fun _ _ _ _ => rfl
  have HT0 := Aside0.mk (fun (wi : World) (h : MB w wi A1 texts.length c1) => txt13_any 0 w.heap.size A1 c1 texts wi (by decide) h.b5 (Kd.C_below hC1 h.bel) hl)
  have HT1 := Aside0.mk (fun (wi : World) (h : MB w wi A1 texts.length c1) => txt13_any 1 w.heap.size A1 c1 texts wi (by decide) h.b5 (Kd.C_below hC1 h.bel) hl)
  have HS := Aside0.mk (MB.start w A1 texts.length c1)
  generalize tx texts 0 = T0 at *
  generalize tx texts 1 = T1 at *
  generalize texts.length = tl at *
  have HT := Aside0.mk ht
  clear hC1 hl ht
  obtain ⟨PS, hPS⟩ : ∃ PS, (if T1.size = 0 then [T0] else [T0, T1]) = PS := ⟨_, rfl⟩
  have HRG := Aside0.mk (fun wi => unregister_any T0 T1 wi (by omega) (by omega))
  simp only [hPS] at HRG
  rw [hPS]
  have hpl : PS.length ≤ 8 := by rw [← hPS]; split <;> simp
  clear hPS
  cases nums with
  | nil =>
    cases bodies with
    | nil =>
      clear hC2 hC3 hzb
      have HPB := Aside0.mk HS.out
      clear HS
      have HTB := Aside0.mk (HT.out.below HPB.out.bel)
      go_enter Tryd.func6, Tryd.ntmps6
      go_wp2_with fail
      refine (HT0.out _ HPB.out).mono ?_
      rintro e w8 ⟨rfl, rfl⟩
      go_wp2_with fail
      refine (HT1.out _ HPB.out).mono ?_
      rintro e w9 ⟨rfl, rfl⟩
      go_wp2_with fail
      refine (HRG.out _).mono ?_
      rintro e w3 ⟨cp, rfl, hb, hcr⟩
      have HC := Aside0.mk (And.intro hcr (HPB.out.below hb))
      clear hb hcr HPB
      go_wp2_with fail
      refine (command_any cp _ PS none _ hpl HC.out.1).mono ?_
      rintro e w4 ⟨v1, rfl, hb, hr⟩
      obtain ⟨A9, n9, c9, rfl⟩ : ∃ A9 n9 c9, v1 = .slice A9 n9 c9 := by obtain ⟨A, c, h⟩ := Kd.R_slice hr; exact ⟨A, _, c, h⟩
      have HM4 := Aside0.mk (HC.out.2.below hb)
      have HR := Aside0.mk (HC.out.2.row hr)
      obtain ⟨q0, q1, q2, q3⟩ := And.intro (blk_cell HM4.out.b8 0) (And.intro (blk_cell HM4.out.b8 1) (And.intro (blk_cell HM4.out.b8 2) (blk_cell HM4.out.b8 3)))
      have s0 := blk_frozen HM4.out.b8 0
      have s1 := blk_frozen HM4.out.b8 1
      have s2 := blk_frozen HM4.out.b8 2
      have s3 := blk_frozen HM4.out.b8 3
      clear hb hr HC
      simp only [Option.getD, Option.isSome]
      go_wp2_with fail
      refine bodyPost_ret (results_ct rfl _ _ (w.heap.size + 1) 30 #[.string ⟨#[85, 78, 82, 69, 71, 73, 83, 84, 69, 82]⟩, .slice A9 n9 c9, .string ⟨#[]⟩, .bool false] (0, 0) _ rfl HM4.out.fin.1 Tryd.underlying30 rfl (by kernel_rfl)) rfl ?_
      exact ⟨_, rfl, HM4.out.fin.2, HR.out _ _ _ _⟩
    | cons b0 bodies =>
      obtain ⟨ad3, hA3, hc3x⟩ := at_enc hC3 (j := 0) (x := b0) rfl
      subst hA3
      have hc3 : w.cell? ad3 = some (.string b0) := by simpa [Addr.add] using hc3x
      have hlt3 : ad3.block < w.heap.size := World.block_lt_of_cell? _ _ hc3
      clear hc3x
      have hzb0 : b0.size ≤ 100 := hzb b0 (by simp)
      clear hC2 hC3 hzb
      have HPB := Aside0.mk (HS.out.below (bytes_below (Below.refl _ _) (Nat.le_refl _) 5 b0))
      have HTA := Aside0.mk (TA.new ((w.alloc (.cells #[.slice A1 tl c1] 22)).alloc (.cells #[.string ⟨#[]⟩, .slice none 0 0, .string ⟨#[]⟩, .bool false] 30)) b0 (by omega))
      have HTB := Aside0.mk (HT.out.below HPB.out.bel)
      rw [show ((w.alloc (.cells #[.slice A1 tl c1] 22)).alloc (.cells #[.string ⟨#[]⟩, .slice none 0 0, .string ⟨#[]⟩, .bool false] 30)).heap.size = w.heap.size + 1 + 1 by rw [World.size_alloc, World.size_alloc]] at HTA
      clear HS
      go_enter Tryd.func6, Tryd.ntmps6
      go_wp2_with fail
      refine (HT0.out _ HPB.out).mono ?_
      rintro e w8 ⟨rfl, rfl⟩
      go_wp2_with fail
      refine (HT1.out _ HPB.out).mono ?_
      rintro e w9 ⟨rfl, rfl⟩
      go_wp2_with fail
      refine (HRG.out _).mono ?_
      rintro e w3 ⟨cp, rfl, hb, hcr⟩
      have HC := Aside0.mk (And.intro hcr (HPB.out.below hb))
      clear hb hcr HPB
      go_wp2_with fail
      refine (command_any cp _ PS none _ hpl HC.out.1).mono ?_
      rintro e w4 ⟨v1, rfl, hb, hr⟩
      obtain ⟨A9, n9, c9, rfl⟩ : ∃ A9 n9 c9, v1 = .slice A9 n9 c9 := by obtain ⟨A, c, h⟩ := Kd.R_slice hr; exact ⟨A, _, c, h⟩
      have HM4 := Aside0.mk (HC.out.2.below hb)
      have HR := Aside0.mk (HC.out.2.row hr)
      obtain ⟨q0, q1, q2, q3⟩ := And.intro (blk_cell HM4.out.b8 0) (And.intro (blk_cell HM4.out.b8 1) (And.intro (blk_cell HM4.out.b8 2) (blk_cell HM4.out.b8 3)))
      have s0 := blk_frozen HM4.out.b8 0
      have s1 := blk_frozen HM4.out.b8 1
      have s2 := blk_frozen HM4.out.b8 2
      have s3 := blk_frozen HM4.out.b8 3
      clear hb hr HC
      simp only [Option.getD, Option.isSome]
      go_wp2_with fail
      refine bodyPost_ret (results_ct rfl _ _ (w.heap.size + 1) 30 #[.string ⟨#[85, 78, 82, 69, 71, 73, 83, 84, 69, 82]⟩, .slice A9 n9 c9, .string ⟨#[]⟩, .bool false] (0, 0) _ rfl HM4.out.fin.1 Tryd.underlying30 rfl (by kernel_rfl)) rfl ?_
      exact ⟨_, rfl, HM4.out.fin.2, HR.out _ _ _ _⟩
  | cons n0 nums =>
    cases bodies with
    | nil =>
      obtain ⟨ad2, hA2, hc2x⟩ := at_enc hC2 (j := 0) (x := n0) rfl
      subst hA2
      have hc2 : w.cell? ad2 = some (.int .i64 n0) := by simpa [Addr.add] using hc2x
      have hlt2 : ad2.block < w.heap.size := World.block_lt_of_cell? _ _ hc2
      clear hc2x
      clear hC2 hC3 hzb
      have HPB := Aside0.mk HS.out
      clear HS
      have HTB := Aside0.mk (HT.out.below HPB.out.bel)
      go_enter Tryd.func6, Tryd.ntmps6
      go_wp2_with fail
      refine (HT0.out _ HPB.out).mono ?_
      rintro e w8 ⟨rfl, rfl⟩
      go_wp2_with fail
      refine (HT1.out _ HPB.out).mono ?_
      rintro e w9 ⟨rfl, rfl⟩
      go_wp2_with fail
      refine (HRG.out _).mono ?_
      rintro e w3 ⟨cp, rfl, hb, hcr⟩
      have HC := Aside0.mk (And.intro hcr (HPB.out.below hb))
      clear hb hcr HPB
      go_wp2_with fail
      refine (command_any cp _ PS none _ hpl HC.out.1).mono ?_
      rintro e w4 ⟨v1, rfl, hb, hr⟩
      obtain ⟨A9, n9, c9, rfl⟩ : ∃ A9 n9 c9, v1 = .slice A9 n9 c9 := by obtain ⟨A, c, h⟩ := Kd.R_slice hr; exact ⟨A, _, c, h⟩
      have HM4 := Aside0.mk (HC.out.2.below hb)
      have HR := Aside0.mk (HC.out.2.row hr)
      obtain ⟨q0, q1, q2, q3⟩ := And.intro (blk_cell HM4.out.b8 0) (And.intro (blk_cell HM4.out.b8 1) (And.intro (blk_cell HM4.out.b8 2) (blk_cell HM4.out.b8 3)))
      have s0 := blk_frozen HM4.out.b8 0
      have s1 := blk_frozen HM4.out.b8 1
      have s2 := blk_frozen HM4.out.b8 2
      have s3 := blk_frozen HM4.out.b8 3
      clear hb hr HC
      simp only [Option.getD, Option.isSome]
      go_wp2_with fail
      refine bodyPost_ret (results_ct rfl _ _ (w.heap.size + 1) 30 #[.string ⟨#[85, 78, 82, 69, 71, 73, 83, 84, 69, 82]⟩, .slice A9 n9 c9, .string ⟨#[]⟩, .bool false] (0, 0) _ rfl HM4.out.fin.1 Tryd.underlying30 rfl (by kernel_rfl)) rfl ?_
      exact ⟨_, rfl, HM4.out.fin.2, HR.out _ _ _ _⟩
    | cons b0 bodies =>
      obtain ⟨ad2, hA2, hc2x⟩ := at_enc hC2 (j := 0) (x := n0) rfl
      subst hA2
      have hc2 : w.cell? ad2 = some (.int .i64 n0) := by simpa [Addr.add] using hc2x
      have hlt2 : ad2.block < w.heap.size := World.block_lt_of_cell? _ _ hc2
      clear hc2x
      obtain ⟨ad3, hA3, hc3x⟩ := at_enc hC3 (j := 0) (x := b0) rfl
      subst hA3
      have hc3 : w.cell? ad3 = some (.string b0) := by simpa [Addr.add] using hc3x
      have hlt3 : ad3.block < w.heap.size := World.block_lt_of_cell? _ _ hc3
      clear hc3x
      have hzb0 : b0.size ≤ 100 := hzb b0 (by simp)
      clear hC2 hC3 hzb
      have HPB := Aside0.mk (HS.out.below (bytes_below (Below.refl _ _) (Nat.le_refl _) 5 b0))
      have HTA := Aside0.mk (TA.new ((w.alloc (.cells #[.slice A1 tl c1] 22)).alloc (.cells #[.string ⟨#[]⟩, .slice none 0 0, .string ⟨#[]⟩, .bool false] 30)) b0 (by omega))
      have HTB := Aside0.mk (HT.out.below HPB.out.bel)
      rw [show ((w.alloc (.cells #[.slice A1 tl c1] 22)).alloc (.cells #[.string ⟨#[]⟩, .slice none 0 0, .string ⟨#[]⟩, .bool false] 30)).heap.size = w.heap.size + 1 + 1 by rw [World.size_alloc, World.size_alloc]] at HTA
      clear HS
      go_enter Tryd.func6, Tryd.ntmps6
      go_wp2_with fail
      refine (HT0.out _ HPB.out).mono ?_
      rintro e w8 ⟨rfl, rfl⟩
      go_wp2_with fail
      refine (HT1.out _ HPB.out).mono ?_
      rintro e w9 ⟨rfl, rfl⟩
      go_wp2_with fail
      refine (HRG.out _).mono ?_
      rintro e w3 ⟨cp, rfl, hb, hcr⟩
      have HC := Aside0.mk (And.intro hcr (HPB.out.below hb))
      clear hb hcr HPB
      go_wp2_with fail
      refine (command_any cp _ PS none _ hpl HC.out.1).mono ?_
      rintro e w4 ⟨v1, rfl, hb, hr⟩
      obtain ⟨A9, n9, c9, rfl⟩ : ∃ A9 n9 c9, v1 = .slice A9 n9 c9 := by obtain ⟨A, c, h⟩ := Kd.R_slice hr; exact ⟨A, _, c, h⟩
      have HM4 := Aside0.mk (HC.out.2.below hb)
      have HR := Aside0.mk (HC.out.2.row hr)
      obtain ⟨q0, q1, q2, q3⟩ := And.intro (blk_cell HM4.out.b8 0) (And.intro (blk_cell HM4.out.b8 1) (And.intro (blk_cell HM4.out.b8 2) (blk_cell HM4.out.b8 3)))
      have s0 := blk_frozen HM4.out.b8 0
      have s1 := blk_frozen HM4.out.b8 1
      have s2 := blk_frozen HM4.out.b8 2
      have s3 := blk_frozen HM4.out.b8 3
      clear hb hr HC
      simp only [Option.getD, Option.isSome]
      go_wp2_with fail
      refine bodyPost_ret (results_ct rfl _ _ (w.heap.size + 1) 30 #[.string ⟨#[85, 78, 82, 69, 71, 73, 83, 84, 69, 82]⟩, .slice A9 n9 c9, .string ⟨#[]⟩, .bool false] (0, 0) _ rfl HM4.out.fin.1 Tryd.underlying30 rfl (by kernel_rfl)) rfl ?_
      exact ⟨_, rfl, HM4.out.fin.2, HR.out _ _ _ _⟩
end Go.Proofs.YtnbhledkdkchlaaDoor

namespace Go.Proofs.YtnbhledkdkchlaaDoor
set_option linter.unusedVariables false
set_option linter.unusedSimpArgs false
open Go.RowKit Go.Proofs.YtnbhledkdkchlaaDoorW.PrintWords

set_option maxHeartbeats 8000000 in
set_option maxRecDepth 100000 in
theorem im3_any (A1 A2 A3 : Option Addr) (c1 c2 c3 : Nat) (texts : List ByteArray) (nums : List Int) (bodies : List ByteArray) (w : World) (hl : texts.length ≤ 4)
    (hC1 : Kd.C Kd.string w A1 texts.length texts) (hC2 : Kd.C (Kd.int .i64) w A2 nums.length nums) (hC3 : Kd.C Kd.string w A3 bodies.length bodies) (hln : nums.length ≤ 4) (hlb : bodies.length ≤ 8)
    (hz0 : (tx texts 0).size ≤ 100) (hz1 : (tx texts 1).size ≤ 100) (hzb : ∀ s ∈ bodies, s.size ≤ 100) (ht : Tb w) :
    Calls Tryd.prog 6 #[.int .i64 3, .slice A1 texts.length c1, .slice A2 nums.length c2, .slice A3 bodies.length c3] w fun e w' => MiR w ⟨#[80, 73, 78, 71]⟩ [] none e w' := by
  have hbs := fun w s => print_bytes (P := Tryd.prog) 9 42 5 Tryd.underlying9 Tryd.underlying42 Tryd.underlying5 s w
  have hmf : ∀ (fn : Fn) (first cap : Array Value) (w : World), (Instr.makeFunc fn first cap).run Tryd.prog w = .ok (.func fn first cap) w := fun _ _ _ _ => rfl
  have HT0 := Aside0.mk (fun (wi : World) (h : MB w wi A1 texts.length c1) => txt13_any 0 w.heap.size A1 c1 texts wi (by decide) h.b5 (Kd.C_below hC1 h.bel) hl)
  have HT1 := Aside0.mk (fun (wi : World) (h : MB w wi A1 texts.length c1) => txt13_any 1 w.heap.size A1 c1 texts wi (by decide) h.b5 (Kd.C_below hC1 h.bel) hl)
  have HS := Aside0.mk (MB.start w A1 texts.length c1)
  generalize tx texts 0 = T0 at *
  generalize tx texts 1 = T1 at *
  generalize texts.length = tl at *
  have HT := Aside0.mk ht
  clear hC1 hl ht
  cases nums with
  | nil =>
    cases bodies with
    | nil =>
      clear hC2 hC3 hzb
      have HPB := Aside0.mk HS.out
      clear HS
      have HTB := Aside0.mk (HT.out.below HPB.out.bel)
      go_enter Tryd.func6, Tryd.ntmps6
      go_wp2_with fail
      refine (ping_any _).mono ?_
      rintro e w3 ⟨cp, rfl, hb, hcr⟩
      have HC := Aside0.mk (And.intro hcr (HPB.out.below hb))
      clear hb hcr HPB
      go_wp2_with fail
      refine (command_any cp _ [] none _ (by simp) HC.out.1).mono ?_
      rintro e w4 ⟨v1, rfl, hb, hr⟩
      obtain ⟨A9, n9, c9, rfl⟩ : ∃ A9 n9 c9, v1 = .slice A9 n9 c9 := by obtain ⟨A, c, h⟩ := Kd.R_slice hr; exact ⟨A, _, c, h⟩
      have HM4 := Aside0.mk (HC.out.2.below hb)
      have HR := Aside0.mk (HC.out.2.row hr)
      obtain ⟨q0, q1, q2, q3⟩ := And.intro (blk_cell HM4.out.b8 0) (And.intro (blk_cell HM4.out.b8 1) (And.intro (blk_cell HM4.out.b8 2) (blk_cell HM4.out.b8 3)))
      have s0 := blk_frozen HM4.out.b8 0
      have s1 := blk_frozen HM4.out.b8 1
      have s2 := blk_frozen HM4.out.b8 2
      have s3 := blk_frozen HM4.out.b8 3
      clear hb hr HC
      simp only [Option.getD, Option.isSome]
      go_wp2_with fail
      refine bodyPost_ret (results_ct rfl _ _ (w.heap.size + 1) 30 #[.string ⟨#[80, 73, 78, 71]⟩, .slice A9 n9 c9, .string ⟨#[]⟩, .bool false] (0, 0) _ rfl HM4.out.fin.1 Tryd.underlying30 rfl (by kernel_rfl)) rfl ?_
      exact ⟨_, rfl, HM4.out.fin.2, HR.out _ _ _ _⟩
    | cons b0 bodies =>
      obtain ⟨ad3, hA3, hc3x⟩ := at_enc hC3 (j := 0) (x := b0) rfl
      subst hA3
      have hc3 : w.cell? ad3 = some (.string b0) := by simpa [Addr.add] using hc3x
      have hlt3 : ad3.block < w.heap.size := World.block_lt_of_cell? _ _ hc3
      clear hc3x
      have hzb0 : b0.size ≤ 100 := hzb b0 (by simp)
      clear hC2 hC3 hzb
      have HPB := Aside0.mk (HS.out.below (bytes_below (Below.refl _ _) (Nat.le_refl _) 5 b0))
      have HTA := Aside0.mk (TA.new ((w.alloc (.cells #[.slice A1 tl c1] 22)).alloc (.cells #[.string ⟨#[]⟩, .slice none 0 0, .string ⟨#[]⟩, .bool false] 30)) b0 (by omega))
      have HTB := Aside0.mk (HT.out.below HPB.out.bel)
      rw [show ((w.alloc (.cells #[.slice A1 tl c1] 22)).alloc (.cells #[.string ⟨#[]⟩, .slice none 0 0, .string ⟨#[]⟩, .bool false] 30)).heap.size = w.heap.size + 1 + 1 by rw [World.size_alloc, World.size_alloc]] at HTA
      clear HS
      go_enter Tryd.func6, Tryd.ntmps6
      go_wp2_with fail
      refine (ping_any _).mono ?_
      rintro e w3 ⟨cp, rfl, hb, hcr⟩
      have HC := Aside0.mk (And.intro hcr (HPB.out.below hb))
      clear hb hcr HPB
      go_wp2_with fail
      refine (command_any cp _ [] none _ (by simp) HC.out.1).mono ?_
      rintro e w4 ⟨v1, rfl, hb, hr⟩
      obtain ⟨A9, n9, c9, rfl⟩ : ∃ A9 n9 c9, v1 = .slice A9 n9 c9 := by obtain ⟨A, c, h⟩ := Kd.R_slice hr; exact ⟨A, _, c, h⟩
      have HM4 := Aside0.mk (HC.out.2.below hb)
      have HR := Aside0.mk (HC.out.2.row hr)
      obtain ⟨q0, q1, q2, q3⟩ := And.intro (blk_cell HM4.out.b8 0) (And.intro (blk_cell HM4.out.b8 1) (And.intro (blk_cell HM4.out.b8 2) (blk_cell HM4.out.b8 3)))
      have s0 := blk_frozen HM4.out.b8 0
      have s1 := blk_frozen HM4.out.b8 1
      have s2 := blk_frozen HM4.out.b8 2
      have s3 := blk_frozen HM4.out.b8 3
      clear hb hr HC
      simp only [Option.getD, Option.isSome]
      go_wp2_with fail
      refine bodyPost_ret (results_ct rfl _ _ (w.heap.size + 1) 30 #[.string ⟨#[80, 73, 78, 71]⟩, .slice A9 n9 c9, .string ⟨#[]⟩, .bool false] (0, 0) _ rfl HM4.out.fin.1 Tryd.underlying30 rfl (by kernel_rfl)) rfl ?_
      exact ⟨_, rfl, HM4.out.fin.2, HR.out _ _ _ _⟩
  | cons n0 nums =>
    cases bodies with
    | nil =>
      obtain ⟨ad2, hA2, hc2x⟩ := at_enc hC2 (j := 0) (x := n0) rfl
      subst hA2
      have hc2 : w.cell? ad2 = some (.int .i64 n0) := by simpa [Addr.add] using hc2x
      have hlt2 : ad2.block < w.heap.size := World.block_lt_of_cell? _ _ hc2
      clear hc2x
      clear hC2 hC3 hzb
      have HPB := Aside0.mk HS.out
      clear HS
      have HTB := Aside0.mk (HT.out.below HPB.out.bel)
      go_enter Tryd.func6, Tryd.ntmps6
      go_wp2_with fail
      refine (ping_any _).mono ?_
      rintro e w3 ⟨cp, rfl, hb, hcr⟩
      have HC := Aside0.mk (And.intro hcr (HPB.out.below hb))
      clear hb hcr HPB
      go_wp2_with fail
      refine (command_any cp _ [] none _ (by simp) HC.out.1).mono ?_
      rintro e w4 ⟨v1, rfl, hb, hr⟩
      obtain ⟨A9, n9, c9, rfl⟩ : ∃ A9 n9 c9, v1 = .slice A9 n9 c9 := by obtain ⟨A, c, h⟩ := Kd.R_slice hr; exact ⟨A, _, c, h⟩
      have HM4 := Aside0.mk (HC.out.2.below hb)
      have HR := Aside0.mk (HC.out.2.row hr)
      obtain ⟨q0, q1, q2, q3⟩ := And.intro (blk_cell HM4.out.b8 0) (And.intro (blk_cell HM4.out.b8 1) (And.intro (blk_cell HM4.out.b8 2) (blk_cell HM4.out.b8 3)))
      have s0 := blk_frozen HM4.out.b8 0
      have s1 := blk_frozen HM4.out.b8 1
      have s2 := blk_frozen HM4.out.b8 2
      have s3 := blk_frozen HM4.out.b8 3
      clear hb hr HC
      simp only [Option.getD, Option.isSome]
      go_wp2_with fail
      refine bodyPost_ret (results_ct rfl _ _ (w.heap.size + 1) 30 #[.string ⟨#[80, 73, 78, 71]⟩, .slice A9 n9 c9, .string ⟨#[]⟩, .bool false] (0, 0) _ rfl HM4.out.fin.1 Tryd.underlying30 rfl (by kernel_rfl)) rfl ?_
      exact ⟨_, rfl, HM4.out.fin.2, HR.out _ _ _ _⟩
    | cons b0 bodies =>
      obtain ⟨ad2, hA2, hc2x⟩ := at_enc hC2 (j := 0) (x := n0) rfl
      subst hA2
      have hc2 : w.cell? ad2 = some (.int .i64 n0) := by simpa [Addr.add] using hc2x
      have hlt2 : ad2.block < w.heap.size := World.block_lt_of_cell? _ _ hc2
      clear hc2x
      obtain ⟨ad3, hA3, hc3x⟩ := at_enc hC3 (j := 0) (x := b0) rfl
      subst hA3
      have hc3 : w.cell? ad3 = some (.string b0) := by simpa [Addr.add] using hc3x
      have hlt3 : ad3.block < w.heap.size := World.block_lt_of_cell? _ _ hc3
      clear hc3x
      have hzb0 : b0.size ≤ 100 := hzb b0 (by simp)
      clear hC2 hC3 hzb
      have HPB := Aside0.mk (HS.out.below (bytes_below (Below.refl _ _) (Nat.le_refl _) 5 b0))
      have HTA := Aside0.mk (TA.new ((w.alloc (.cells #[.slice A1 tl c1] 22)).alloc (.cells #[.string ⟨#[]⟩, .slice none 0 0, .string ⟨#[]⟩, .bool false] 30)) b0 (by omega))
      have HTB := Aside0.mk (HT.out.below HPB.out.bel)
      rw [show ((w.alloc (.cells #[.slice A1 tl c1] 22)).alloc (.cells #[.string ⟨#[]⟩, .slice none 0 0, .string ⟨#[]⟩, .bool false] 30)).heap.size = w.heap.size + 1 + 1 by rw [World.size_alloc, World.size_alloc]] at HTA
      clear HS
      go_enter Tryd.func6, Tryd.ntmps6
      go_wp2_with fail
      refine (ping_any _).mono ?_
      rintro e w3 ⟨cp, rfl, hb, hcr⟩
      have HC := Aside0.mk (And.intro hcr (HPB.out.below hb))
      clear hb hcr HPB
      go_wp2_with fail
      refine (command_any cp _ [] none _ (by simp) HC.out.1).mono ?_
      rintro e w4 ⟨v1, rfl, hb, hr⟩
      obtain ⟨A9, n9, c9, rfl⟩ : ∃ A9 n9 c9, v1 = .slice A9 n9 c9 := by obtain ⟨A, c, h⟩ := Kd.R_slice hr; exact ⟨A, _, c, h⟩
      have HM4 := Aside0.mk (HC.out.2.below hb)
      have HR := Aside0.mk (HC.out.2.row hr)
      obtain ⟨q0, q1, q2, q3⟩ := And.intro (blk_cell HM4.out.b8 0) (And.intro (blk_cell HM4.out.b8 1) (And.intro (blk_cell HM4.out.b8 2) (blk_cell HM4.out.b8 3)))
      have s0 := blk_frozen HM4.out.b8 0
      have s1 := blk_frozen HM4.out.b8 1
      have s2 := blk_frozen HM4.out.b8 2
      have s3 := blk_frozen HM4.out.b8 3
      clear hb hr HC
      simp only [Option.getD, Option.isSome]
      go_wp2_with fail
      refine bodyPost_ret (results_ct rfl _ _ (w.heap.size + 1) 30 #[.string ⟨#[80, 73, 78, 71]⟩, .slice A9 n9 c9, .string ⟨#[]⟩, .bool false] (0, 0) _ rfl HM4.out.fin.1 Tryd.underlying30 rfl (by kernel_rfl)) rfl ?_
      exact ⟨_, rfl, HM4.out.fin.2, HR.out _ _ _ _⟩
end Go.Proofs.YtnbhledkdkchlaaDoor

namespace Go.Proofs.YtnbhledkdkchlaaDoor
set_option linter.unusedVariables false
set_option linter.unusedSimpArgs false
open Go.RowKit Go.Proofs.YtnbhledkdkchlaaDoorW.PrintWords

set_option maxHeartbeats 8000000 in
set_option maxRecDepth 100000 in
theorem im4_any (A1 A2 A3 : Option Addr) (c1 c2 c3 : Nat) (texts : List ByteArray) (b0 : ByteArray) (nums : List Int) (bodies : List ByteArray) (w : World) (hl : texts.length ≤ 4)
    (hC1 : Kd.C Kd.string w A1 texts.length texts) (hC2 : Kd.C (Kd.int .i64) w A2 nums.length nums) (hC3 : Kd.C Kd.string w A3 (b0 :: bodies).length (b0 :: bodies)) (hln : nums.length ≤ 4) (hlb : (b0 :: bodies).length ≤ 8)
    (hz0 : (tx texts 0).size ≤ 100) (hz1 : (tx texts 1).size ≤ 100) (hzb : ∀ s ∈ (b0 :: bodies), s.size ≤ 100) (ht : Tb w) :
    Calls Tryd.prog 6 #[.int .i64 4, .slice A1 texts.length c1, .slice A2 nums.length c2, .slice A3 (b0 :: bodies).length c3] w fun e w' => MiR w ⟨#[80, 85, 66]⟩ [tx texts 0] (some b0) e w' := by
  have hbs := fun w s => print_bytes (P := Tryd.prog) 9 42 5 Tryd.underlying9 Tryd.underlying42 Tryd.underlying5 s w
  have hmf : ∀ (fn : Fn) (first cap : Array Value) (w : World), (Instr.makeFunc fn first cap).run Tryd.prog w = .ok (.func fn first cap) w := fun _ _ _ _ => rfl
  have HT0 := Aside0.mk (fun (wi : World) (h : MB w wi A1 texts.length c1) => txt13_any 0 w.heap.size A1 c1 texts wi (by decide) h.b5 (Kd.C_below hC1 h.bel) hl)
  have HT1 := Aside0.mk (fun (wi : World) (h : MB w wi A1 texts.length c1) => txt13_any 1 w.heap.size A1 c1 texts wi (by decide) h.b5 (Kd.C_below hC1 h.bel) hl)
  have HS := Aside0.mk (MB.start w A1 texts.length c1)
  generalize tx texts 0 = T0 at *
  generalize tx texts 1 = T1 at *
  generalize texts.length = tl at *
  have HT := Aside0.mk ht
  clear hC1 hl ht
  obtain ⟨ad3, hA3, hc3x⟩ := at_enc hC3 (j := 0) (x := b0) rfl
  subst hA3
  have hc3 : w.cell? ad3 = some (.string b0) := by simpa [Addr.add] using hc3x
  have hlt3 : ad3.block < w.heap.size := World.block_lt_of_cell? _ _ hc3
  clear hc3x
  have hzb0 : b0.size ≤ 100 := hzb b0 (by simp)
  cases nums with
  | nil =>
    clear hC2 hC3 hzb
    have HPB := Aside0.mk (HS.out.below (bytes_below (Below.refl _ _) (Nat.le_refl _) 5 b0))
    have HTA := Aside0.mk (TA.new ((w.alloc (.cells #[.slice A1 tl c1] 22)).alloc (.cells #[.string ⟨#[]⟩, .slice none 0 0, .string ⟨#[]⟩, .bool false] 30)) b0 (by omega))
    have HTB := Aside0.mk (HT.out.below HPB.out.bel)
    rw [show ((w.alloc (.cells #[.slice A1 tl c1] 22)).alloc (.cells #[.string ⟨#[]⟩, .slice none 0 0, .string ⟨#[]⟩, .bool false] 30)).heap.size = w.heap.size + 1 + 1 by rw [World.size_alloc, World.size_alloc]] at HTA
    clear HS
    go_enter Tryd.func6, Tryd.ntmps6
    go_wp2_with fail
    refine (HT0.out _ HPB.out).mono ?_
    rintro e w8 ⟨rfl, rfl⟩
    go_wp2_with fail
    refine (publish_any T0 b0 _ _ _ (by omega) (by omega) HTA.out).mono ?_
    rintro e w3 ⟨cp, rfl, hb, hcr⟩
    have HC := Aside0.mk (And.intro hcr (HPB.out.below hb))
    clear hb hcr HPB
    go_wp2_with fail
    refine (command_any cp _ [T0] (some b0) _ (by simp) HC.out.1).mono ?_
    rintro e w4 ⟨v1, rfl, hb, hr⟩
    obtain ⟨A9, n9, c9, rfl⟩ : ∃ A9 n9 c9, v1 = .slice A9 n9 c9 := by obtain ⟨A, c, h⟩ := Kd.R_slice hr; exact ⟨A, _, c, h⟩
    have HM4 := Aside0.mk (HC.out.2.below hb)
    have HR := Aside0.mk (HC.out.2.row hr)
    obtain ⟨q0, q1, q2, q3⟩ := And.intro (blk_cell HM4.out.b8 0) (And.intro (blk_cell HM4.out.b8 1) (And.intro (blk_cell HM4.out.b8 2) (blk_cell HM4.out.b8 3)))
    have s0 := blk_frozen HM4.out.b8 0
    have s1 := blk_frozen HM4.out.b8 1
    have s2 := blk_frozen HM4.out.b8 2
    have s3 := blk_frozen HM4.out.b8 3
    clear hb hr HC
    simp only [Option.getD, Option.isSome]
    go_wp2_with fail
    refine bodyPost_ret (results_ct rfl _ _ (w.heap.size + 1) 30 #[.string ⟨#[80, 85, 66]⟩, .slice A9 n9 c9, .string b0, .bool true] (0, 0) _ rfl HM4.out.fin.1 Tryd.underlying30 rfl (by kernel_rfl)) rfl ?_
    exact ⟨_, rfl, HM4.out.fin.2, HR.out _ _ _ _⟩
  | cons n0 nums =>
    obtain ⟨ad2, hA2, hc2x⟩ := at_enc hC2 (j := 0) (x := n0) rfl
    subst hA2
    have hc2 : w.cell? ad2 = some (.int .i64 n0) := by simpa [Addr.add] using hc2x
    have hlt2 : ad2.block < w.heap.size := World.block_lt_of_cell? _ _ hc2
    clear hc2x
    clear hC2 hC3 hzb
    have HPB := Aside0.mk (HS.out.below (bytes_below (Below.refl _ _) (Nat.le_refl _) 5 b0))
    have HTA := Aside0.mk (TA.new ((w.alloc (.cells #[.slice A1 tl c1] 22)).alloc (.cells #[.string ⟨#[]⟩, .slice none 0 0, .string ⟨#[]⟩, .bool false] 30)) b0 (by omega))
    have HTB := Aside0.mk (HT.out.below HPB.out.bel)
    rw [show ((w.alloc (.cells #[.slice A1 tl c1] 22)).alloc (.cells #[.string ⟨#[]⟩, .slice none 0 0, .string ⟨#[]⟩, .bool false] 30)).heap.size = w.heap.size + 1 + 1 by rw [World.size_alloc, World.size_alloc]] at HTA
    clear HS
    go_enter Tryd.func6, Tryd.ntmps6
    go_wp2_with fail
    refine (HT0.out _ HPB.out).mono ?_
    rintro e w8 ⟨rfl, rfl⟩
    go_wp2_with fail
    refine (publish_any T0 b0 _ _ _ (by omega) (by omega) HTA.out).mono ?_
    rintro e w3 ⟨cp, rfl, hb, hcr⟩
    have HC := Aside0.mk (And.intro hcr (HPB.out.below hb))
    clear hb hcr HPB
    go_wp2_with fail
    refine (command_any cp _ [T0] (some b0) _ (by simp) HC.out.1).mono ?_
    rintro e w4 ⟨v1, rfl, hb, hr⟩
    obtain ⟨A9, n9, c9, rfl⟩ : ∃ A9 n9 c9, v1 = .slice A9 n9 c9 := by obtain ⟨A, c, h⟩ := Kd.R_slice hr; exact ⟨A, _, c, h⟩
    have HM4 := Aside0.mk (HC.out.2.below hb)
    have HR := Aside0.mk (HC.out.2.row hr)
    obtain ⟨q0, q1, q2, q3⟩ := And.intro (blk_cell HM4.out.b8 0) (And.intro (blk_cell HM4.out.b8 1) (And.intro (blk_cell HM4.out.b8 2) (blk_cell HM4.out.b8 3)))
    have s0 := blk_frozen HM4.out.b8 0
    have s1 := blk_frozen HM4.out.b8 1
    have s2 := blk_frozen HM4.out.b8 2
    have s3 := blk_frozen HM4.out.b8 3
    clear hb hr HC
    simp only [Option.getD, Option.isSome]
    go_wp2_with fail
    refine bodyPost_ret (results_ct rfl _ _ (w.heap.size + 1) 30 #[.string ⟨#[80, 85, 66]⟩, .slice A9 n9 c9, .string b0, .bool true] (0, 0) _ rfl HM4.out.fin.1 Tryd.underlying30 rfl (by kernel_rfl)) rfl ?_
    exact ⟨_, rfl, HM4.out.fin.2, HR.out _ _ _ _⟩
end Go.Proofs.YtnbhledkdkchlaaDoor

namespace Go.Proofs.YtnbhledkdkchlaaDoor
set_option linter.unusedVariables false
set_option linter.unusedSimpArgs false
open Go.RowKit Go.Proofs.YtnbhledkdkchlaaDoorW.PrintWords

set_option maxHeartbeats 8000000 in
set_option maxRecDepth 100000 in
theorem im5_any (A1 A2 A3 : Option Addr) (c1 c2 c3 : Nat) (texts : List ByteArray) (m : Nat) (b0 : ByteArray) (nums : List Int) (bodies : List ByteArray) (w : World) (hl : texts.length ≤ 4)
    (hC1 : Kd.C Kd.string w A1 texts.length texts) (hC2 : Kd.C (Kd.int .i64) w A2 ((m : Int) :: nums).length ((m : Int) :: nums)) (hC3 : Kd.C Kd.string w A3 (b0 :: bodies).length (b0 :: bodies)) (hln : ((m : Int) :: nums).length ≤ 4) (hlb : (b0 :: bodies).length ≤ 8)
    (hz0 : (tx texts 0).size ≤ 100) (hz1 : (tx texts 1).size ≤ 100) (hzb : ∀ s ∈ (b0 :: bodies), s.size ≤ 100) (hm : m < 9223372036854775808) (ht : Tb w) :
    Calls Tryd.prog 6 #[.int .i64 5, .slice A1 texts.length c1, .slice A2 ((m : Int) :: nums).length c2, .slice A3 (b0 :: bodies).length c3] w fun e w' => MiR w ⟨#[68, 80, 85, 66]⟩ [tx texts 0, dec (m / 1000000)] (some b0) e w' := by
  have hbs := fun w s => print_bytes (P := Tryd.prog) 9 42 5 Tryd.underlying9 Tryd.underlying42 Tryd.underlying5 s w
  have hmf : ∀ (fn : Fn) (first cap : Array Value) (w : World), (Instr.makeFunc fn first cap).run Tryd.prog w = .ok (.func fn first cap) w := fun _ _ _ _ => rfl
  have HT0 := Aside0.mk (fun (wi : World) (h : MB w wi A1 texts.length c1) => txt13_any 0 w.heap.size A1 c1 texts wi (by decide) h.b5 (Kd.C_below hC1 h.bel) hl)
  have HT1 := Aside0.mk (fun (wi : World) (h : MB w wi A1 texts.length c1) => txt13_any 1 w.heap.size A1 c1 texts wi (by decide) h.b5 (Kd.C_below hC1 h.bel) hl)
  have HS := Aside0.mk (MB.start w A1 texts.length c1)
  generalize tx texts 0 = T0 at *
  generalize tx texts 1 = T1 at *
  generalize texts.length = tl at *
  have HT := Aside0.mk ht
  clear hC1 hl ht
  have HM := Aside0.mk hm
  obtain ⟨ad2, hA2, hc2x⟩ := at_enc hC2 (j := 0) (x := (m : Int)) rfl
  subst hA2
  have hc2 : w.cell? ad2 = some (.int .i64 (m : Int)) := by simpa [Addr.add] using hc2x
  have hlt2 : ad2.block < w.heap.size := World.block_lt_of_cell? _ _ hc2
  clear hc2x
  obtain ⟨ad3, hA3, hc3x⟩ := at_enc hC3 (j := 0) (x := b0) rfl
  subst hA3
  have hc3 : w.cell? ad3 = some (.string b0) := by simpa [Addr.add] using hc3x
  have hlt3 : ad3.block < w.heap.size := World.block_lt_of_cell? _ _ hc3
  clear hc3x
  have hzb0 : b0.size ≤ 100 := hzb b0 (by simp)
  clear hC2 hC3 hzb hm
  have HPB := Aside0.mk (HS.out.below (bytes_below (Below.refl _ _) (Nat.le_refl _) 5 b0))
  have HTA := Aside0.mk (TA.new ((w.alloc (.cells #[.slice A1 tl c1] 22)).alloc (.cells #[.string ⟨#[]⟩, .slice none 0 0, .string ⟨#[]⟩, .bool false] 30)) b0 (by omega))
  have HTB := Aside0.mk (HT.out.below HPB.out.bel)
  rw [show ((w.alloc (.cells #[.slice A1 tl c1] 22)).alloc (.cells #[.string ⟨#[]⟩, .slice none 0 0, .string ⟨#[]⟩, .bool false] 30)).heap.size = w.heap.size + 1 + 1 by rw [World.size_alloc, World.size_alloc]] at HTA
  clear HS
  go_enter Tryd.func6, Tryd.ntmps6
  go_wp2_with fail
  refine (HT0.out _ HPB.out).mono ?_
  rintro e w8 ⟨rfl, rfl⟩
  go_wp2_with fail
  refine (dpub_any T0 b0 _ _ m _ (by omega) (by omega) HTA.out HM.out HTB.out).mono ?_
  rintro e w3 ⟨cp, rfl, hb, hcr⟩
  have HC := Aside0.mk (And.intro hcr (HPB.out.below hb))
  clear hb hcr HPB
  go_wp2_with fail
  refine (command_any cp _ [T0, dec (m / 1000000)] (some b0) _ (by simp) HC.out.1).mono ?_
  rintro e w4 ⟨v1, rfl, hb, hr⟩
  obtain ⟨A9, n9, c9, rfl⟩ : ∃ A9 n9 c9, v1 = .slice A9 n9 c9 := by obtain ⟨A, c, h⟩ := Kd.R_slice hr; exact ⟨A, _, c, h⟩
  have HM4 := Aside0.mk (HC.out.2.below hb)
  have HR := Aside0.mk (HC.out.2.row hr)
  obtain ⟨q0, q1, q2, q3⟩ := And.intro (blk_cell HM4.out.b8 0) (And.intro (blk_cell HM4.out.b8 1) (And.intro (blk_cell HM4.out.b8 2) (blk_cell HM4.out.b8 3)))
  have s0 := blk_frozen HM4.out.b8 0
  have s1 := blk_frozen HM4.out.b8 1
  have s2 := blk_frozen HM4.out.b8 2
  have s3 := blk_frozen HM4.out.b8 3
  clear hb hr HC
  simp only [Option.getD, Option.isSome]
  go_wp2_with fail
  refine bodyPost_ret (results_ct rfl _ _ (w.heap.size + 1) 30 #[.string ⟨#[68, 80, 85, 66]⟩, .slice A9 n9 c9, .string b0, .bool true] (0, 0) _ rfl HM4.out.fin.1 Tryd.underlying30 rfl (by kernel_rfl)) rfl ?_
  exact ⟨_, rfl, HM4.out.fin.2, HR.out _ _ _ _⟩
end Go.Proofs.YtnbhledkdkchlaaDoor

namespace Go.Proofs.YtnbhledkdkchlaaDoor
set_option linter.unusedVariables false
set_option linter.unusedSimpArgs false
open Go.RowKit Go.Proofs.YtnbhledkdkchlaaDoorW.PrintWords

set_option maxHeartbeats 8000000 in
set_option maxRecDepth 100000 in
theorem im7_any (A1 A2 A3 : Option Addr) (c1 c2 c3 : Nat) (texts : List ByteArray) (nums : List Int) (bodies : List ByteArray) (w : World) (hl : texts.length ≤ 4)
    (hC1 : Kd.C Kd.string w A1 texts.length texts) (hC2 : Kd.C (Kd.int .i64) w A2 nums.length nums) (hC3 : Kd.C Kd.string w A3 bodies.length bodies) (hln : nums.length ≤ 4) (hlb : bodies.length ≤ 8)
    (hz0 : (tx texts 0).size ≤ 100) (hz1 : (tx texts 1).size ≤ 100) (hzb : ∀ s ∈ bodies, s.size ≤ 100) (ht : Tb w) :
    Calls Tryd.prog 6 #[.int .i64 7, .slice A1 texts.length c1, .slice A2 nums.length c2, .slice A3 bodies.length c3] w fun e w' => MiR w ⟨#[83, 85, 66]⟩ [tx texts 0, tx texts 1] none e w' := by
  have hbs := fun w s => print_bytes (P := Tryd.prog) 9 42 5 Tryd.underlying9 Tryd.underlying42 Tryd.underlying5 s w
  have hmf : ∀ (fn : Fn) (first cap : Array Value) (w : World), (Instr.makeFunc fn first cap).run Tryd.prog w = .ok (.func fn first cap) w := fun _ _ _ _ => rfl
  have HT0 := Aside0.mk (fun (wi : World) (h : MB w wi A1 texts.length c1) => txt13_any 0 w.heap.size A1 c1 texts wi (by decide) h.b5 (Kd.C_below hC1 h.bel) hl)
  have HT1 := Aside0.mk (fun (wi : World) (h : MB w wi A1 texts.length c1) => txt13_any 1 w.heap.size A1 c1 texts wi (by decide) h.b5 (Kd.C_below hC1 h.bel) hl)
  have HS := Aside0.mk (MB.start w A1 texts.length c1)
  generalize tx texts 0 = T0 at *
  generalize tx texts 1 = T1 at *
  generalize texts.length = tl at *
  have HT := Aside0.mk ht
  clear hC1 hl ht
  cases nums with
  | nil =>
    cases bodies with
    | nil =>
      clear hC2 hC3 hzb
      have HPB := Aside0.mk HS.out
      clear HS
      have HTB := Aside0.mk (HT.out.below HPB.out.bel)
      go_enter Tryd.func6, Tryd.ntmps6
      go_wp2_with fail
      refine (HT0.out _ HPB.out).mono ?_
      rintro e w8 ⟨rfl, rfl⟩
      go_wp2_with fail
      refine (HT1.out _ HPB.out).mono ?_
      rintro e w9 ⟨rfl, rfl⟩
      go_wp2_with fail
      refine (subscribe_any T0 T1 _ (by omega) (by omega)).mono ?_
      rintro e w3 ⟨cp, rfl, hb, hcr⟩
      have HC := Aside0.mk (And.intro hcr (HPB.out.below hb))
      clear hb hcr HPB
      go_wp2_with fail
      refine (command_any cp _ [T0, T1] none _ (by simp) HC.out.1).mono ?_
      rintro e w4 ⟨v1, rfl, hb, hr⟩
      obtain ⟨A9, n9, c9, rfl⟩ : ∃ A9 n9 c9, v1 = .slice A9 n9 c9 := by obtain ⟨A, c, h⟩ := Kd.R_slice hr; exact ⟨A, _, c, h⟩
      have HM4 := Aside0.mk (HC.out.2.below hb)
      have HR := Aside0.mk (HC.out.2.row hr)
      obtain ⟨q0, q1, q2, q3⟩ := And.intro (blk_cell HM4.out.b8 0) (And.intro (blk_cell HM4.out.b8 1) (And.intro (blk_cell HM4.out.b8 2) (blk_cell HM4.out.b8 3)))
      have s0 := blk_frozen HM4.out.b8 0
      have s1 := blk_frozen HM4.out.b8 1
      have s2 := blk_frozen HM4.out.b8 2
      have s3 := blk_frozen HM4.out.b8 3
      clear hb hr HC
      simp only [Option.getD, Option.isSome]
      go_wp2_with fail
      refine bodyPost_ret (results_ct rfl _ _ (w.heap.size + 1) 30 #[.string ⟨#[83, 85, 66]⟩, .slice A9 n9 c9, .string ⟨#[]⟩, .bool false] (0, 0) _ rfl HM4.out.fin.1 Tryd.underlying30 rfl (by kernel_rfl)) rfl ?_
      exact ⟨_, rfl, HM4.out.fin.2, HR.out _ _ _ _⟩
    | cons b0 bodies =>
      obtain ⟨ad3, hA3, hc3x⟩ := at_enc hC3 (j := 0) (x := b0) rfl
      subst hA3
      have hc3 : w.cell? ad3 = some (.string b0) := by simpa [Addr.add] using hc3x
      have hlt3 : ad3.block < w.heap.size := World.block_lt_of_cell? _ _ hc3
      clear hc3x
      have hzb0 : b0.size ≤ 100 := hzb b0 (by simp)
      clear hC2 hC3 hzb
      have HPB := Aside0.mk (HS.out.below (bytes_below (Below.refl _ _) (Nat.le_refl _) 5 b0))
      have HTA := Aside0.mk (TA.new ((w.alloc (.cells #[.slice A1 tl c1] 22)).alloc (.cells #[.string ⟨#[]⟩, .slice none 0 0, .string ⟨#[]⟩, .bool false] 30)) b0 (by omega))
      have HTB := Aside0.mk (HT.out.below HPB.out.bel)
      rw [show ((w.alloc (.cells #[.slice A1 tl c1] 22)).alloc (.cells #[.string ⟨#[]⟩, .slice none 0 0, .string ⟨#[]⟩, .bool false] 30)).heap.size = w.heap.size + 1 + 1 by rw [World.size_alloc, World.size_alloc]] at HTA
      clear HS
      go_enter Tryd.func6, Tryd.ntmps6
      go_wp2_with fail
      refine (HT0.out _ HPB.out).mono ?_
      rintro e w8 ⟨rfl, rfl⟩
      go_wp2_with fail
      refine (HT1.out _ HPB.out).mono ?_
      rintro e w9 ⟨rfl, rfl⟩
      go_wp2_with fail
      refine (subscribe_any T0 T1 _ (by omega) (by omega)).mono ?_
      rintro e w3 ⟨cp, rfl, hb, hcr⟩
      have HC := Aside0.mk (And.intro hcr (HPB.out.below hb))
      clear hb hcr HPB
      go_wp2_with fail
      refine (command_any cp _ [T0, T1] none _ (by simp) HC.out.1).mono ?_
      rintro e w4 ⟨v1, rfl, hb, hr⟩
      obtain ⟨A9, n9, c9, rfl⟩ : ∃ A9 n9 c9, v1 = .slice A9 n9 c9 := by obtain ⟨A, c, h⟩ := Kd.R_slice hr; exact ⟨A, _, c, h⟩
      have HM4 := Aside0.mk (HC.out.2.below hb)
      have HR := Aside0.mk (HC.out.2.row hr)
      obtain ⟨q0, q1, q2, q3⟩ := And.intro (blk_cell HM4.out.b8 0) (And.intro (blk_cell HM4.out.b8 1) (And.intro (blk_cell HM4.out.b8 2) (blk_cell HM4.out.b8 3)))
      have s0 := blk_frozen HM4.out.b8 0
      have s1 := blk_frozen HM4.out.b8 1
      have s2 := blk_frozen HM4.out.b8 2
      have s3 := blk_frozen HM4.out.b8 3
      clear hb hr HC
      simp only [Option.getD, Option.isSome]
      go_wp2_with fail
      refine bodyPost_ret (results_ct rfl _ _ (w.heap.size + 1) 30 #[.string ⟨#[83, 85, 66]⟩, .slice A9 n9 c9, .string ⟨#[]⟩, .bool false] (0, 0) _ rfl HM4.out.fin.1 Tryd.underlying30 rfl (by kernel_rfl)) rfl ?_
      exact ⟨_, rfl, HM4.out.fin.2, HR.out _ _ _ _⟩
  | cons n0 nums =>
    cases bodies with
    | nil =>
      obtain ⟨ad2, hA2, hc2x⟩ := at_enc hC2 (j := 0) (x := n0) rfl
      subst hA2
      have hc2 : w.cell? ad2 = some (.int .i64 n0) := by simpa [Addr.add] using hc2x
      have hlt2 : ad2.block < w.heap.size := World.block_lt_of_cell? _ _ hc2
      clear hc2x
      clear hC2 hC3 hzb
      have HPB := Aside0.mk HS.out
      clear HS
      have HTB := Aside0.mk (HT.out.below HPB.out.bel)
      go_enter Tryd.func6, Tryd.ntmps6
      go_wp2_with fail
      refine (HT0.out _ HPB.out).mono ?_
      rintro e w8 ⟨rfl, rfl⟩
      go_wp2_with fail
      refine (HT1.out _ HPB.out).mono ?_
      rintro e w9 ⟨rfl, rfl⟩
      go_wp2_with fail
      refine (subscribe_any T0 T1 _ (by omega) (by omega)).mono ?_
      rintro e w3 ⟨cp, rfl, hb, hcr⟩
      have HC := Aside0.mk (And.intro hcr (HPB.out.below hb))
      clear hb hcr HPB
      go_wp2_with fail
      refine (command_any cp _ [T0, T1] none _ (by simp) HC.out.1).mono ?_
      rintro e w4 ⟨v1, rfl, hb, hr⟩
      obtain ⟨A9, n9, c9, rfl⟩ : ∃ A9 n9 c9, v1 = .slice A9 n9 c9 := by obtain ⟨A, c, h⟩ := Kd.R_slice hr; exact ⟨A, _, c, h⟩
      have HM4 := Aside0.mk (HC.out.2.below hb)
      have HR := Aside0.mk (HC.out.2.row hr)
      obtain ⟨q0, q1, q2, q3⟩ := And.intro (blk_cell HM4.out.b8 0) (And.intro (blk_cell HM4.out.b8 1) (And.intro (blk_cell HM4.out.b8 2) (blk_cell HM4.out.b8 3)))
      have s0 := blk_frozen HM4.out.b8 0
      have s1 := blk_frozen HM4.out.b8 1
      have s2 := blk_frozen HM4.out.b8 2
      have s3 := blk_frozen HM4.out.b8 3
      clear hb hr HC
      simp only [Option.getD, Option.isSome]
      go_wp2_with fail
      refine bodyPost_ret (results_ct rfl _ _ (w.heap.size + 1) 30 #[.string ⟨#[83, 85, 66]⟩, .slice A9 n9 c9, .string ⟨#[]⟩, .bool false] (0, 0) _ rfl HM4.out.fin.1 Tryd.underlying30 rfl (by kernel_rfl)) rfl ?_
      exact ⟨_, rfl, HM4.out.fin.2, HR.out _ _ _ _⟩
    | cons b0 bodies =>
      obtain ⟨ad2, hA2, hc2x⟩ := at_enc hC2 (j := 0) (x := n0) rfl
      subst hA2
      have hc2 : w.cell? ad2 = some (.int .i64 n0) := by simpa [Addr.add] using hc2x
      have hlt2 : ad2.block < w.heap.size := World.block_lt_of_cell? _ _ hc2
      clear hc2x
      obtain ⟨ad3, hA3, hc3x⟩ := at_enc hC3 (j := 0) (x := b0) rfl
      subst hA3
      have hc3 : w.cell? ad3 = some (.string b0) := by simpa [Addr.add] using hc3x
      have hlt3 : ad3.block < w.heap.size := World.block_lt_of_cell? _ _ hc3
      clear hc3x
      have hzb0 : b0.size ≤ 100 := hzb b0 (by simp)
      clear hC2 hC3 hzb
      have HPB := Aside0.mk (HS.out.below (bytes_below (Below.refl _ _) (Nat.le_refl _) 5 b0))
      have HTA := Aside0.mk (TA.new ((w.alloc (.cells #[.slice A1 tl c1] 22)).alloc (.cells #[.string ⟨#[]⟩, .slice none 0 0, .string ⟨#[]⟩, .bool false] 30)) b0 (by omega))
      have HTB := Aside0.mk (HT.out.below HPB.out.bel)
      rw [show ((w.alloc (.cells #[.slice A1 tl c1] 22)).alloc (.cells #[.string ⟨#[]⟩, .slice none 0 0, .string ⟨#[]⟩, .bool false] 30)).heap.size = w.heap.size + 1 + 1 by rw [World.size_alloc, World.size_alloc]] at HTA
      clear HS
      go_enter Tryd.func6, Tryd.ntmps6
      go_wp2_with fail
      refine (HT0.out _ HPB.out).mono ?_
      rintro e w8 ⟨rfl, rfl⟩
      go_wp2_with fail
      refine (HT1.out _ HPB.out).mono ?_
      rintro e w9 ⟨rfl, rfl⟩
      go_wp2_with fail
      refine (subscribe_any T0 T1 _ (by omega) (by omega)).mono ?_
      rintro e w3 ⟨cp, rfl, hb, hcr⟩
      have HC := Aside0.mk (And.intro hcr (HPB.out.below hb))
      clear hb hcr HPB
      go_wp2_with fail
      refine (command_any cp _ [T0, T1] none _ (by simp) HC.out.1).mono ?_
      rintro e w4 ⟨v1, rfl, hb, hr⟩
      obtain ⟨A9, n9, c9, rfl⟩ : ∃ A9 n9 c9, v1 = .slice A9 n9 c9 := by obtain ⟨A, c, h⟩ := Kd.R_slice hr; exact ⟨A, _, c, h⟩
      have HM4 := Aside0.mk (HC.out.2.below hb)
      have HR := Aside0.mk (HC.out.2.row hr)
      obtain ⟨q0, q1, q2, q3⟩ := And.intro (blk_cell HM4.out.b8 0) (And.intro (blk_cell HM4.out.b8 1) (And.intro (blk_cell HM4.out.b8 2) (blk_cell HM4.out.b8 3)))
      have s0 := blk_frozen HM4.out.b8 0
      have s1 := blk_frozen HM4.out.b8 1
      have s2 := blk_frozen HM4.out.b8 2
      have s3 := blk_frozen HM4.out.b8 3
      clear hb hr HC
      simp only [Option.getD, Option.isSome]
      go_wp2_with fail
      refine bodyPost_ret (results_ct rfl _ _ (w.heap.size + 1) 30 #[.string ⟨#[83, 85, 66]⟩, .slice A9 n9 c9, .string ⟨#[]⟩, .bool false] (0, 0) _ rfl HM4.out.fin.1 Tryd.underlying30 rfl (by kernel_rfl)) rfl ?_
      exact ⟨_, rfl, HM4.out.fin.2, HR.out _ _ _ _⟩
end Go.Proofs.YtnbhledkdkchlaaDoor
