/- spec.token, cases of the marker. (seat r1; printed by gen_tok.py) -/
import Derived.Test.YtjnookhdiolhgaaTokB
namespace Go.Proofs.Ytjnookhdiolhgaa
set_option linter.unusedVariables false
set_option linter.unusedSimpArgs false
open Go.RowKit Go.Proofs.YtjnookhdiolhgaaW.PrintWords

set_option maxHeartbeats 4000000 in
set_option maxRecDepth 100000 in
theorem token_c2 (s s1 : ByteArray) (m : Int) (w : World) (h0 : 0 < s.size) (hs : s.size ≤ 1000000000) (hm : ((s[0]'h0).toNat : Int) = m) (hs1 : s.extract 1 s.size = s1) (hm0 : 0 ≤ m) (hm1 : m ≤ 255) (k0 : ¬ (m < 128)) (k1 : ¬ (m < 144)) (k2 : m < 160) :
  Calls Try.prog 58 #[.string s] w fun e w' => TokR (tksM (mark m).1 (mark m).2.1 (mark m).2.2 (bytesOf s1)) w e w' := by
 obtain ⟨TT, hTT⟩ : ∃ TT, TT = tksM (mark m).1 (mark m).2.1 (mark m).2.2 (bytesOf s1) := ⟨_, rfl⟩
 rw [← hTT]
 have HTT := Aside0.mk hTT
 clear hTT
 have hmk : mark m = (6, (m - 144), 0) := mark_of (by
  unfold PAll.packstream_markerOf.f
  rw [if_neg k0, if_neg k1, if_pos k2]
  have hw : IntKind.i8.wrap ((m - 144) % 256) = (m - 144) := by rw [wrap_i8']; omega
  rw [hw])
 have HTK := Aside0.mk (show TT = .ok ⟨6, false, 0, 0, ⟨#[]⟩, m - 144, 0⟩ (bytesOf s1) by
  rw [HTT.out, hmk]
  have : (((m - 144).toNat : Nat) : Int) = m - 144 := by omega
  simp [tksM, tokM, tkOpn, lenQ, tkv, this])
 clear hmk
 have K0 := Aside0.mk k0
 have K1 := Aside0.mk k1
 have K2 := Aside0.mk k2
 clear k0 k1 k2
 have ha := and15 m hm0 hm1
 have hw : IntKind.u64.wrap (m % 16) = m % 16 := by rw [IntKind.wrap_u64]; omega
 have h0i : (0 : Int) < (s.size : Int) := by omega
 have hne : s.toList.isEmpty = false := by
  rw [Bool.eq_false_iff]
  intro h
  have h1 : s.toList = [] := by simpa using h
  have h2 : s.size = 0 := by rw [← toList_len, h1]; rfl
  omega
 have hs1z : s1.size ≤ 1000000000 := by rw [← hs1, ByteArray.size_extract]; omega
 have HSZ := Aside0.mk hs1z
 clear hs1z
 go_enter Try.func58, Try.ntmps58
 go_upto_region 9 with fail
 refine wp_gen (F := fun wz => TB w wz s1 m tk0 (m % 16) true) ?_ ?_
 ·obtain ⟨x0, x1, x2, x3, x4, x5⟩ := six_boxes w (.cells #[.string s1] 9) (.cells (B57 tk0) 57) (.cells #[.int .u8 m] 5) (.cells #[.func (.func 107) #[] #[.pointer (some ⟨w.heap.size, 0, none⟩)]] 161) (.cells #[.int .u64 (m % 16)] 22) (.cells #[.bool true] 4)
  exact ⟨six_below w _ _ _ _ _ _, x0, x1, x2, x3, x4, x5⟩
 intro wz HZ
 have H := Aside0.mk HZ
 have HX := H
 clear HZ hm hs1 h0 hne ha hw h0i
 have hb1 := HX.out.b1
 unfold B57 tk0 at hb1
 have c0 := blk_cell HX.out.b0 0
 have f0 := blk_frozen HX.out.b0 0
 have c2 := blk_cell HX.out.b2 0
 have c3 := blk_cell HX.out.b3 0
 have c4 := blk_cell HX.out.b4 0
 have f4 := blk_frozen HX.out.b4 0
 have c5 := blk_cell HX.out.b5 0
 have f5 := blk_frozen HX.out.b5 0
 have t0 := blk_cell hb1 0
 have t1 := blk_cell hb1 1
 have t2 := blk_cell hb1 2
 have t3 := blk_cell hb1 3
 have t4 := blk_cell hb1 4
 have t5 := blk_cell hb1 5
 have t6 := blk_cell hb1 6
 have g0 := blk_frozen hb1 0
 have g1 := blk_frozen hb1 1
 have g2 := blk_frozen hb1 2
 have g3 := blk_frozen hb1 3
 have g4 := blk_frozen hb1 4
 have g5 := blk_frozen hb1 5
 have g6 := blk_frozen hb1 6
 clear hb1
 have k0 := K0.out
 have k1 := K1.out
 have k2 := K2.out
 have hu32 : IntKind.u32.wrap (m % 16) = m - 144 := by rw [IntKind.wrap_u32]; omega
 go_upto_region 53 with fail
 clear c0 f0 c2 c3 c4 f4 c5 f5 t0 t1 t2 t3 t4 t5 t6 g0 g1 g2 g3 g4 g5 g6
 refine wp_gen (F := fun wq => TB w wq s1 m ⟨6, false, 0, 0, ⟨#[]⟩, m - 144, 0⟩ (m % 16) true) ((HX.out.setT 0 _ ⟨6, false, 0, 0, ⟨#[]⟩, 0, 0⟩ rfl).setT 5 _ ⟨6, false, 0, 0, ⟨#[]⟩, m - 144, 0⟩ rfl) ?_
 intro wz2 HZ
 have HX := Aside0.mk HZ
 clear HZ
 have hb1 := HX.out.b1
 unfold B57 at hb1
 have c0 := blk_cell HX.out.b0 0
 have f0 := blk_frozen HX.out.b0 0
 have c2 := blk_cell HX.out.b2 0
 have c3 := blk_cell HX.out.b3 0
 have c4 := blk_cell HX.out.b4 0
 have f4 := blk_frozen HX.out.b4 0
 have c5 := blk_cell HX.out.b5 0
 have f5 := blk_frozen HX.out.b5 0
 have t0 := blk_cell hb1 0
 have t1 := blk_cell hb1 1
 have t2 := blk_cell hb1 2
 have t3 := blk_cell hb1 3
 have t4 := blk_cell hb1 4
 have t5 := blk_cell hb1 5
 have t6 := blk_cell hb1 6
 have g0 := blk_frozen hb1 0
 have g1 := blk_frozen hb1 1
 have g2 := blk_frozen hb1 2
 have g3 := blk_frozen hb1 3
 have g4 := blk_frozen hb1 4
 have g5 := blk_frozen hb1 5
 have g6 := blk_frozen hb1 6
 clear hb1
 go_region
 go_wp2_with fail
 refine bodyPost_ret (results_cttt rfl _ _ (w.heap.size + 1) 57 (B57 ⟨6, false, 0, 0, ⟨#[]⟩, m - 144, 0⟩) (0, 0) _ rfl (fill57 (t2 := ⟨6, false, 0, 0, ⟨#[]⟩, m - 144, 0⟩) HX.out.b1) Try.underlying57 rfl (by kernel_rfl)) rfl ?_
 rw [HTK.out]
 exact ⟨below_drew (below7 HX.out.bel (by omega) _ _ _ _ _ _ _), s1, rfl, rfl⟩

set_option maxHeartbeats 4000000 in
set_option maxRecDepth 100000 in
theorem token_c3 (s s1 : ByteArray) (m : Int) (w : World) (h0 : 0 < s.size) (hs : s.size ≤ 1000000000) (hm : ((s[0]'h0).toNat : Int) = m) (hs1 : s.extract 1 s.size = s1) (hm0 : 0 ≤ m) (hm1 : m ≤ 255) (k0 : ¬ (m < 128)) (k1 : ¬ (m < 144)) (k2 : ¬ (m < 160)) (k3 : m < 176) :
  Calls Try.prog 58 #[.string s] w fun e w' => TokR (tksM (mark m).1 (mark m).2.1 (mark m).2.2 (bytesOf s1)) w e w' := by
 obtain ⟨TT, hTT⟩ : ∃ TT, TT = tksM (mark m).1 (mark m).2.1 (mark m).2.2 (bytesOf s1) := ⟨_, rfl⟩
 rw [← hTT]
 have HTT := Aside0.mk hTT
 clear hTT
 have hmk : mark m = (7, (m - 160), 0) := mark_of (by
  unfold PAll.packstream_markerOf.f
  rw [if_neg k0, if_neg k1, if_neg k2, if_pos k3]
  have hw : IntKind.i8.wrap ((m - 160) % 256) = (m - 160) := by rw [wrap_i8']; omega
  rw [hw])
 have HTK := Aside0.mk (show TT = .ok ⟨7, false, 0, 0, ⟨#[]⟩, m - 160, 0⟩ (bytesOf s1) by
  rw [HTT.out, hmk]
  have : (((m - 160).toNat : Nat) : Int) = m - 160 := by omega
  simp [tksM, tokM, tkOpn, lenQ, tkv, this])
 clear hmk
 have K0 := Aside0.mk k0
 have K1 := Aside0.mk k1
 have K2 := Aside0.mk k2
 have K3 := Aside0.mk k3
 clear k0 k1 k2 k3
 have ha := and15 m hm0 hm1
 have hw : IntKind.u64.wrap (m % 16) = m % 16 := by rw [IntKind.wrap_u64]; omega
 have h0i : (0 : Int) < (s.size : Int) := by omega
 have hne : s.toList.isEmpty = false := by
  rw [Bool.eq_false_iff]
  intro h
  have h1 : s.toList = [] := by simpa using h
  have h2 : s.size = 0 := by rw [← toList_len, h1]; rfl
  omega
 have hs1z : s1.size ≤ 1000000000 := by rw [← hs1, ByteArray.size_extract]; omega
 have HSZ := Aside0.mk hs1z
 clear hs1z
 go_enter Try.func58, Try.ntmps58
 go_upto_region 9 with fail
 refine wp_gen (F := fun wz => TB w wz s1 m tk0 (m % 16) true) ?_ ?_
 ·obtain ⟨x0, x1, x2, x3, x4, x5⟩ := six_boxes w (.cells #[.string s1] 9) (.cells (B57 tk0) 57) (.cells #[.int .u8 m] 5) (.cells #[.func (.func 107) #[] #[.pointer (some ⟨w.heap.size, 0, none⟩)]] 161) (.cells #[.int .u64 (m % 16)] 22) (.cells #[.bool true] 4)
  exact ⟨six_below w _ _ _ _ _ _, x0, x1, x2, x3, x4, x5⟩
 intro wz HZ
 have H := Aside0.mk HZ
 have HX := H
 clear HZ hm hs1 h0 hne ha hw h0i
 have hb1 := HX.out.b1
 unfold B57 tk0 at hb1
 have c0 := blk_cell HX.out.b0 0
 have f0 := blk_frozen HX.out.b0 0
 have c2 := blk_cell HX.out.b2 0
 have c3 := blk_cell HX.out.b3 0
 have c4 := blk_cell HX.out.b4 0
 have f4 := blk_frozen HX.out.b4 0
 have c5 := blk_cell HX.out.b5 0
 have f5 := blk_frozen HX.out.b5 0
 have t0 := blk_cell hb1 0
 have t1 := blk_cell hb1 1
 have t2 := blk_cell hb1 2
 have t3 := blk_cell hb1 3
 have t4 := blk_cell hb1 4
 have t5 := blk_cell hb1 5
 have t6 := blk_cell hb1 6
 have g0 := blk_frozen hb1 0
 have g1 := blk_frozen hb1 1
 have g2 := blk_frozen hb1 2
 have g3 := blk_frozen hb1 3
 have g4 := blk_frozen hb1 4
 have g5 := blk_frozen hb1 5
 have g6 := blk_frozen hb1 6
 clear hb1
 have k0 := K0.out
 have k1 := K1.out
 have k2 := K2.out
 have k3 := K3.out
 have hu32 : IntKind.u32.wrap (m % 16) = m - 160 := by rw [IntKind.wrap_u32]; omega
 go_upto_region 53 with fail
 clear c0 f0 c2 c3 c4 f4 c5 f5 t0 t1 t2 t3 t4 t5 t6 g0 g1 g2 g3 g4 g5 g6
 refine wp_gen (F := fun wq => TB w wq s1 m ⟨7, false, 0, 0, ⟨#[]⟩, m - 160, 0⟩ (m % 16) true) ((HX.out.setT 0 _ ⟨7, false, 0, 0, ⟨#[]⟩, 0, 0⟩ rfl).setT 5 _ ⟨7, false, 0, 0, ⟨#[]⟩, m - 160, 0⟩ rfl) ?_
 intro wz2 HZ
 have HX := Aside0.mk HZ
 clear HZ
 have hb1 := HX.out.b1
 unfold B57 at hb1
 have c0 := blk_cell HX.out.b0 0
 have f0 := blk_frozen HX.out.b0 0
 have c2 := blk_cell HX.out.b2 0
 have c3 := blk_cell HX.out.b3 0
 have c4 := blk_cell HX.out.b4 0
 have f4 := blk_frozen HX.out.b4 0
 have c5 := blk_cell HX.out.b5 0
 have f5 := blk_frozen HX.out.b5 0
 have t0 := blk_cell hb1 0
 have t1 := blk_cell hb1 1
 have t2 := blk_cell hb1 2
 have t3 := blk_cell hb1 3
 have t4 := blk_cell hb1 4
 have t5 := blk_cell hb1 5
 have t6 := blk_cell hb1 6
 have g0 := blk_frozen hb1 0
 have g1 := blk_frozen hb1 1
 have g2 := blk_frozen hb1 2
 have g3 := blk_frozen hb1 3
 have g4 := blk_frozen hb1 4
 have g5 := blk_frozen hb1 5
 have g6 := blk_frozen hb1 6
 clear hb1
 go_region
 go_wp2_with fail
 refine bodyPost_ret (results_cttt rfl _ _ (w.heap.size + 1) 57 (B57 ⟨7, false, 0, 0, ⟨#[]⟩, m - 160, 0⟩) (0, 0) _ rfl (fill57 (t2 := ⟨7, false, 0, 0, ⟨#[]⟩, m - 160, 0⟩) HX.out.b1) Try.underlying57 rfl (by kernel_rfl)) rfl ?_
 rw [HTK.out]
 exact ⟨below_drew (below7 HX.out.bel (by omega) _ _ _ _ _ _ _), s1, rfl, rfl⟩

set_option maxHeartbeats 4000000 in
set_option maxRecDepth 100000 in
theorem token_c4 (s s1 : ByteArray) (m : Int) (w : World) (h0 : 0 < s.size) (hs : s.size ≤ 1000000000) (hm : ((s[0]'h0).toNat : Int) = m) (hs1 : s.extract 1 s.size = s1) (hm0 : 0 ≤ m) (hm1 : m ≤ 255) (k0 : ¬ (m < 128)) (k1 : ¬ (m < 144)) (k2 : ¬ (m < 160)) (k3 : ¬ (m < 176)) (k4 : m < 192) :
  Calls Try.prog 58 #[.string s] w fun e w' => TokR (tksM (mark m).1 (mark m).2.1 (mark m).2.2 (bytesOf s1)) w e w' := by
 obtain ⟨TT, hTT⟩ : ∃ TT, TT = tksM (mark m).1 (mark m).2.1 (mark m).2.2 (bytesOf s1) := ⟨_, rfl⟩
 rw [← hTT]
 have HTT := Aside0.mk hTT
 clear hTT
 have hmk : mark m = (4, (m - 176), 0) := mark_of (by
  unfold PAll.packstream_markerOf.f
  rw [if_neg k0, if_neg k1, if_neg k2, if_neg k3, if_pos k4]
  have hw : IntKind.i8.wrap ((m - 176) % 256) = (m - 176) := by rw [wrap_i8']; omega
  rw [hw])
 have hu32 : IntKind.u32.wrap (m % 16) = m - 176 := by rw [IntKind.wrap_u32]; omega
 have HU := Aside0.mk hu32
 clear hu32
 have HMK := Aside0.mk hmk
 clear hmk
 have K0 := Aside0.mk k0
 have K1 := Aside0.mk k1
 have K2 := Aside0.mk k2
 have K3 := Aside0.mk k3
 have K4 := Aside0.mk k4
 clear k0 k1 k2 k3 k4
 have ha := and15 m hm0 hm1
 have hw : IntKind.u64.wrap (m % 16) = m % 16 := by rw [IntKind.wrap_u64]; omega
 have h0i : (0 : Int) < (s.size : Int) := by omega
 have hne : s.toList.isEmpty = false := by
  rw [Bool.eq_false_iff]
  intro h
  have h1 : s.toList = [] := by simpa using h
  have h2 : s.size = 0 := by rw [← toList_len, h1]; rfl
  omega
 have hs1z : s1.size ≤ 1000000000 := by rw [← hs1, ByteArray.size_extract]; omega
 have HSZ := Aside0.mk hs1z
 clear hs1z
 go_enter Try.func58, Try.ntmps58
 go_upto_region 9 with fail
 refine wp_gen (F := fun wz => TB w wz s1 m tk0 (m % 16) true) ?_ ?_
 ·obtain ⟨x0, x1, x2, x3, x4, x5⟩ := six_boxes w (.cells #[.string s1] 9) (.cells (B57 tk0) 57) (.cells #[.int .u8 m] 5) (.cells #[.func (.func 107) #[] #[.pointer (some ⟨w.heap.size, 0, none⟩)]] 161) (.cells #[.int .u64 (m % 16)] 22) (.cells #[.bool true] 4)
  exact ⟨six_below w _ _ _ _ _ _, x0, x1, x2, x3, x4, x5⟩
 intro wz HZ
 have H := Aside0.mk HZ
 have HX := H
 clear HZ hm hs1 h0 hne ha hw h0i
 have hb1 := HX.out.b1
 unfold B57 tk0 at hb1
 have c0 := blk_cell HX.out.b0 0
 have f0 := blk_frozen HX.out.b0 0
 have c2 := blk_cell HX.out.b2 0
 have c3 := blk_cell HX.out.b3 0
 have c4 := blk_cell HX.out.b4 0
 have f4 := blk_frozen HX.out.b4 0
 have c5 := blk_cell HX.out.b5 0
 have f5 := blk_frozen HX.out.b5 0
 have t0 := blk_cell hb1 0
 have t1 := blk_cell hb1 1
 have t2 := blk_cell hb1 2
 have t3 := blk_cell hb1 3
 have t4 := blk_cell hb1 4
 have t5 := blk_cell hb1 5
 have t6 := blk_cell hb1 6
 have g0 := blk_frozen hb1 0
 have g1 := blk_frozen hb1 1
 have g2 := blk_frozen hb1 2
 have g3 := blk_frozen hb1 3
 have g4 := blk_frozen hb1 4
 have g5 := blk_frozen hb1 5
 have g6 := blk_frozen hb1 6
 clear hb1
 have k0 := K0.out
 have k1 := K1.out
 have k2 := K2.out
 have k3 := K3.out
 have k4 := K4.out
 have hu32 := HU.out
 by_cases hz : s1.size = 0
 ·have hl : bytesOf s1 = [] := List.length_eq_zero_iff.1 (by rw [bytesOf_length]; exact hz)
  have HTK := Aside0.mk (show TT = .bad by rw [HTT.out, HMK.out, hl]; rfl)
  have hem : s1.toList.isEmpty = true := by rw [List.isEmpty_iff]; exact List.length_eq_zero_iff.1 (by rw [toList_len]; exact hz)
  clear hl hz
  go_upto_region 49 with fail
  clear c0 f0 c2 c3 c4 f4 c5 f5 t0 t1 t2 t3 t4 t5 t6 g0 g1 g2 g3 g4 g5 g6
  refine wp_gen (F := fun wq => TB w wq s1 m ⟨4, false, 0, 0, ⟨#[]⟩, 0, 0⟩ (m % 16) true) (HX.out.setT 0 _ ⟨4, false, 0, 0, ⟨#[]⟩, 0, 0⟩ rfl) ?_
  intro wz2 HZ
  have HX := Aside0.mk HZ
  clear HZ
  have hb1 := HX.out.b1
  unfold B57 at hb1
  have c0 := blk_cell HX.out.b0 0
  have f0 := blk_frozen HX.out.b0 0
  have c2 := blk_cell HX.out.b2 0
  have c3 := blk_cell HX.out.b3 0
  have c4 := blk_cell HX.out.b4 0
  have f4 := blk_frozen HX.out.b4 0
  have c5 := blk_cell HX.out.b5 0
  have f5 := blk_frozen HX.out.b5 0
  have t0 := blk_cell hb1 0
  have t1 := blk_cell hb1 1
  have t2 := blk_cell hb1 2
  have t3 := blk_cell hb1 3
  have t4 := blk_cell hb1 4
  have t5 := blk_cell hb1 5
  have t6 := blk_cell hb1 6
  have g0 := blk_frozen hb1 0
  have g1 := blk_frozen hb1 1
  have g2 := blk_frozen hb1 2
  have g3 := blk_frozen hb1 3
  have g4 := blk_frozen hb1 4
  have g5 := blk_frozen hb1 5
  have g6 := blk_frozen hb1 6
  clear hb1
  skip
  go_wp2_with fail
  refine bodyPost_ret (results_cttt rfl _ _ (w.heap.size + 1) 57 (B57 tk0) (0, 0) _ rfl (fill57n (t2 := tk0) HX.out.b1) Try.underlying57 rfl (by kernel_rfl)) rfl ?_
  rw [HTK.out]
  exact ⟨below7 HX.out.bel (by omega) _ _ _ _ _ _ _, tk0, ⟨#[]⟩, rfl, rfl⟩

 ·have hp : 0 < s1.size := by omega
  obtain ⟨g, hg⟩ : ∃ g : Int, ((s1[0]'hp).toNat : Int) = g := ⟨_, rfl⟩
  obtain ⟨s2, hs2⟩ : ∃ s2, s1.extract 1 s1.size = s2 := ⟨_, rfl⟩
  have hg0 : 0 ≤ g := by omega
  have hg1 : g ≤ 255 := by have := (s1[0]'hp).toNat_lt; omega
  have hl : bytesOf s1 = g :: bytesOf s2 := by rw [← hs2, bytes_extract, ← hg]; exact bytes_first s1 hp
  have HTK := Aside0.mk (show TT = .ok ⟨4, false, 0, 0, ⟨#[]⟩, m - 176, g⟩ (bytesOf s2) by
   rw [HTT.out, HMK.out, hl]
   have : (((m - 176).toNat : Nat) : Int) = m - 176 := by have := HU.out; omega
   simp [tksM, tokM, tagM, tkv, this])
  have hem : s1.toList.isEmpty = false := by
   rw [Bool.eq_false_iff]
   intro h
   have h1 : s1.toList = [] := by simpa using h
   exact hz (by rw [← toList_len, h1]; rfl)
  have hpi : (0 : Int) < (s1.size : Int) := by omega
  have hgw : IntKind.i64.wrap g = g := by rw [IntKind.wrap_i64]; omega
  clear hl hz
  go_upto_region 53 with fail
  clear c0 f0 c2 c3 c4 f4 c5 f5 t0 t1 t2 t3 t4 t5 t6 g0 g1 g2 g3 g4 g5 g6
  refine wp_gen (F := fun wq => TB w wq s2 m ⟨4, false, 0, 0, ⟨#[]⟩, m - 176, g⟩ (m % 16) true) ((((HX.out.setT 0 _ ⟨4, false, 0, 0, ⟨#[]⟩, 0, 0⟩ rfl).setT 6 _ ⟨4, false, 0, 0, ⟨#[]⟩, 0, g⟩ rfl).setB s2).setT 5 _ ⟨4, false, 0, 0, ⟨#[]⟩, m - 176, g⟩ rfl) ?_
  intro wz2 HZ
  have HX := Aside0.mk HZ
  clear HZ
  have hb1 := HX.out.b1
  unfold B57 at hb1
  have c0 := blk_cell HX.out.b0 0
  have f0 := blk_frozen HX.out.b0 0
  have c2 := blk_cell HX.out.b2 0
  have c3 := blk_cell HX.out.b3 0
  have c4 := blk_cell HX.out.b4 0
  have f4 := blk_frozen HX.out.b4 0
  have c5 := blk_cell HX.out.b5 0
  have f5 := blk_frozen HX.out.b5 0
  have t0 := blk_cell hb1 0
  have t1 := blk_cell hb1 1
  have t2 := blk_cell hb1 2
  have t3 := blk_cell hb1 3
  have t4 := blk_cell hb1 4
  have t5 := blk_cell hb1 5
  have t6 := blk_cell hb1 6
  have g0 := blk_frozen hb1 0
  have g1 := blk_frozen hb1 1
  have g2 := blk_frozen hb1 2
  have g3 := blk_frozen hb1 3
  have g4 := blk_frozen hb1 4
  have g5 := blk_frozen hb1 5
  have g6 := blk_frozen hb1 6
  clear hb1
  go_region
  go_wp2_with fail
  refine bodyPost_ret (results_cttt rfl _ _ (w.heap.size + 1) 57 (B57 ⟨4, false, 0, 0, ⟨#[]⟩, m - 176, g⟩) (0, 0) _ rfl (fill57 (t2 := ⟨4, false, 0, 0, ⟨#[]⟩, m - 176, g⟩) HX.out.b1) Try.underlying57 rfl (by kernel_rfl)) rfl ?_
  rw [HTK.out]
  exact ⟨below_drew (below7 HX.out.bel (by omega) _ _ _ _ _ _ _), s2, rfl, rfl⟩

set_option maxHeartbeats 4000000 in
set_option maxRecDepth 100000 in
theorem token_c26 (s s1 : ByteArray) (m : Int) (w : World) (h0 : 0 < s.size) (hs : s.size ≤ 1000000000) (hm : ((s[0]'h0).toNat : Int) = m) (hs1 : s.extract 1 s.size = s1) (hm0 : 0 ≤ m) (hm1 : m ≤ 255) (k0 : ¬ (m < 128)) (k1 : ¬ (m < 144)) (k2 : ¬ (m < 160)) (k3 : ¬ (m < 176)) (k4 : ¬ (m < 192)) (k5 : ¬ (240 ≤ m)) (k6 : ¬ (m = 192)) (k7 : ¬ (m = 193)) (k8 : ¬ (m = 194)) (k9 : ¬ (m = 195)) (k10 : ¬ (m = 200)) (k11 : ¬ (m = 201)) (k12 : ¬ (m = 202)) (k13 : ¬ (m = 203)) (k14 : ¬ (m = 204)) (k15 : ¬ (m = 205)) (k16 : ¬ (m = 206)) (k17 : ¬ (m = 208)) (k18 : ¬ (m = 209)) (k19 : ¬ (m = 210)) (k20 : ¬ (m = 212)) (k21 : ¬ (m = 213)) (k22 : ¬ (m = 214)) (k23 : ¬ (m = 216)) (k24 : ¬ (m = 217)) (k25 : ¬ (m = 218)) :
  Calls Try.prog 58 #[.string s] w fun e w' => TokR (tksM (mark m).1 (mark m).2.1 (mark m).2.2 (bytesOf s1)) w e w' := by
 obtain ⟨TT, hTT⟩ : ∃ TT, TT = tksM (mark m).1 (mark m).2.1 (mark m).2.2 (bytesOf s1) := ⟨_, rfl⟩
 rw [← hTT]
 have HTT := Aside0.mk hTT
 clear hTT
 have hmk : mark m = (0, 0, 0) := mark_of (by
  unfold PAll.packstream_markerOf.f
  rw [if_neg k0, if_neg k1, if_neg k2, if_neg k3, if_neg k4, if_neg k5, if_neg k6, if_neg k7, if_neg k8, if_neg k9, if_neg k10, if_neg k11, if_neg k12, if_neg k13, if_neg k14, if_neg k15, if_neg k16, if_neg k17, if_neg k18, if_neg k19, if_neg k20, if_neg k21, if_neg k22, if_neg k23, if_neg k24, if_neg k25])
 have HTK := Aside0.mk (show TT = .ok tk0 (bytesOf s1) by rw [HTT.out, hmk]; rfl)
 clear hmk
 have K0 := Aside0.mk k0
 have K1 := Aside0.mk k1
 have K2 := Aside0.mk k2
 have K3 := Aside0.mk k3
 have K4 := Aside0.mk k4
 have K5 := Aside0.mk k5
 have K6 := Aside0.mk k6
 have K7 := Aside0.mk k7
 have K8 := Aside0.mk k8
 have K9 := Aside0.mk k9
 have K10 := Aside0.mk k10
 have K11 := Aside0.mk k11
 have K12 := Aside0.mk k12
 have K13 := Aside0.mk k13
 have K14 := Aside0.mk k14
 have K15 := Aside0.mk k15
 have K16 := Aside0.mk k16
 have K17 := Aside0.mk k17
 have K18 := Aside0.mk k18
 have K19 := Aside0.mk k19
 have K20 := Aside0.mk k20
 have K21 := Aside0.mk k21
 have K22 := Aside0.mk k22
 have K23 := Aside0.mk k23
 have K24 := Aside0.mk k24
 have K25 := Aside0.mk k25
 clear k0 k1 k2 k3 k4 k5 k6 k7 k8 k9 k10 k11 k12 k13 k14 k15 k16 k17 k18 k19 k20 k21 k22 k23 k24 k25
 have ha := and15 m hm0 hm1
 have hw : IntKind.u64.wrap (m % 16) = m % 16 := by rw [IntKind.wrap_u64]; omega
 have h0i : (0 : Int) < (s.size : Int) := by omega
 have hne : s.toList.isEmpty = false := by
  rw [Bool.eq_false_iff]
  intro h
  have h1 : s.toList = [] := by simpa using h
  have h2 : s.size = 0 := by rw [← toList_len, h1]; rfl
  omega
 have hs1z : s1.size ≤ 1000000000 := by rw [← hs1, ByteArray.size_extract]; omega
 have HSZ := Aside0.mk hs1z
 clear hs1z
 go_enter Try.func58, Try.ntmps58
 go_upto_region 9 with fail
 refine wp_gen (F := fun wz => TB w wz s1 m tk0 (m % 16) true) ?_ ?_
 ·obtain ⟨x0, x1, x2, x3, x4, x5⟩ := six_boxes w (.cells #[.string s1] 9) (.cells (B57 tk0) 57) (.cells #[.int .u8 m] 5) (.cells #[.func (.func 107) #[] #[.pointer (some ⟨w.heap.size, 0, none⟩)]] 161) (.cells #[.int .u64 (m % 16)] 22) (.cells #[.bool true] 4)
  exact ⟨six_below w _ _ _ _ _ _, x0, x1, x2, x3, x4, x5⟩
 intro wz HZ
 have H := Aside0.mk HZ
 have HX := H
 clear HZ hm hs1 h0 hne ha hw h0i
 have hb1 := HX.out.b1
 unfold B57 tk0 at hb1
 have c0 := blk_cell HX.out.b0 0
 have f0 := blk_frozen HX.out.b0 0
 have c2 := blk_cell HX.out.b2 0
 have c3 := blk_cell HX.out.b3 0
 have c4 := blk_cell HX.out.b4 0
 have f4 := blk_frozen HX.out.b4 0
 have c5 := blk_cell HX.out.b5 0
 have f5 := blk_frozen HX.out.b5 0
 have t0 := blk_cell hb1 0
 have t1 := blk_cell hb1 1
 have t2 := blk_cell hb1 2
 have t3 := blk_cell hb1 3
 have t4 := blk_cell hb1 4
 have t5 := blk_cell hb1 5
 have t6 := blk_cell hb1 6
 have g0 := blk_frozen hb1 0
 have g1 := blk_frozen hb1 1
 have g2 := blk_frozen hb1 2
 have g3 := blk_frozen hb1 3
 have g4 := blk_frozen hb1 4
 have g5 := blk_frozen hb1 5
 have g6 := blk_frozen hb1 6
 clear hb1
 have k0 := K0.out
 have k1 := K1.out
 have k2 := K2.out
 have k3 := K3.out
 have k4 := K4.out
 have k5 := K5.out
 have k6 := K6.out
 have k7 := K7.out
 have k8 := K8.out
 have k9 := K9.out
 have k10 := K10.out
 have k11 := K11.out
 have k12 := K12.out
 have k13 := K13.out
 have k14 := K14.out
 have k15 := K15.out
 have k16 := K16.out
 have k17 := K17.out
 have k18 := K18.out
 have k19 := K19.out
 have k20 := K20.out
 have k21 := K21.out
 have k22 := K22.out
 have k23 := K23.out
 have k24 := K24.out
 have k25 := K25.out
 go_wp2_with fail
 all_goals
  go_region
  go_wp2_with fail
  refine bodyPost_ret (results_cttt rfl _ _ (w.heap.size + 1) 57 (B57 tk0) (0, 0) _ rfl (fill57 (t2 := tk0) HX.out.b1) Try.underlying57 rfl (by kernel_rfl)) rfl ?_
  rw [HTK.out]
  exact ⟨below_drew (below7 HX.out.bel (by omega) _ _ _ _ _ _ _), s1, rfl, rfl⟩

end Go.Proofs.Ytjnookhdiolhgaa
