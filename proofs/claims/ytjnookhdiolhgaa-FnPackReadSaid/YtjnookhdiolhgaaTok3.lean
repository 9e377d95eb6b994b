/- spec.token, cases of the marker. (seat r1; printed by gen_tok.py) -/
import Derived.Test.YtjnookhdiolhgaaTokB
namespace Go.Proofs.Ytjnookhdiolhgaa
set_option linter.unusedVariables false
set_option linter.unusedSimpArgs false
open Go.RowKit Go.Proofs.YtjnookhdiolhgaaW.PrintWords

set_option maxHeartbeats 4000000 in
set_option maxRecDepth 100000 in
theorem token_c7 (s s1 : ByteArray) (m : Int) (w : World) (h0 : 0 < s.size) (hs : s.size ≤ 1000000000) (hm : ((s[0]'h0).toNat : Int) = m) (hs1 : s.extract 1 s.size = s1) (hm0 : 0 ≤ m) (hm1 : m ≤ 255) (k0 : ¬ (m < 128)) (k1 : ¬ (m < 144)) (k2 : ¬ (m < 160)) (k3 : ¬ (m < 176)) (k4 : ¬ (m < 192)) (k5 : ¬ (240 ≤ m)) (k6 : ¬ (m = 192)) (k7 : m = 193) :
  Calls Try.prog 58 #[.string s] w fun e w' => TokR (tksM (mark m).1 (mark m).2.1 (mark m).2.2 (bytesOf s1)) w e w' := by
 obtain ⟨TT, hTT⟩ : ∃ TT, TT = tksM (mark m).1 (mark m).2.1 (mark m).2.2 (bytesOf s1) := ⟨_, rfl⟩
 rw [← hTT]
 have HTT := Aside0.mk hTT
 clear hTT
 have hmk : mark m = (2, 0, 8) := by rw [k7]; exact mark_of rfl
 have HTK0 := Aside0.mk (show TT = tkv 2 (tkFloat (sizedN 8 (bytesOf s1))) by rw [HTT.out, hmk]; rfl)
 clear hmk
 have K0 := Aside0.mk k0
 have K1 := Aside0.mk k1
 have K2 := Aside0.mk k2
 have K3 := Aside0.mk k3
 have K4 := Aside0.mk k4
 have K5 := Aside0.mk k5
 have K6 := Aside0.mk k6
 have K7 := Aside0.mk k7
 clear k0 k1 k2 k3 k4 k5 k6 k7
 have ha := and15 m hm0 hm1
 have hw : IntKind.u64.wrap (m % 16) = m % 16 := by rw [IntKind.wrap_u64]; omega
 have h0i : (0 : Int) < (s.size : Int) := by omega
 have hne : s.toList.isEmpty = false := by
  rw [Bool.eq_false_iff]
  intro h
  have h1 : s.toList = [] := by simpa using h
  have h2 : s.size = 0 := by rw [← toList_len, h1]; rfl
  omega
 have hs1z : s1.size ≤ 1000000000 := by rw [← hs1, ByteArray.size_extract]; omega
 have HSZ := Aside0.mk hs1z
 clear hs1z
 go_enter Try.func58, Try.ntmps58
 go_upto_region 9 with fail
 refine wp_gen (F := fun wz => TB w wz s1 m tk0 (m % 16) true) ?_ ?_
 ·obtain ⟨x0, x1, x2, x3, x4, x5⟩ := six_boxes w (.cells #[.string s1] 9) (.cells (B57 tk0) 57) (.cells #[.int .u8 m] 5) (.cells #[.func (.func 107) #[] #[.pointer (some ⟨w.heap.size, 0, none⟩)]] 161) (.cells #[.int .u64 (m % 16)] 22) (.cells #[.bool true] 4)
  exact ⟨six_below w _ _ _ _ _ _, x0, x1, x2, x3, x4, x5⟩
 intro wz HZ
 have H := Aside0.mk HZ
 have HX := H
 clear HZ hm hs1 h0 hne ha hw h0i
 have hb1 := HX.out.b1
 unfold B57 tk0 at hb1
 have c0 := blk_cell HX.out.b0 0
 have f0 := blk_frozen HX.out.b0 0
 have c2 := blk_cell HX.out.b2 0
 have c3 := blk_cell HX.out.b3 0
 have c4 := blk_cell HX.out.b4 0
 have f4 := blk_frozen HX.out.b4 0
 have c5 := blk_cell HX.out.b5 0
 have f5 := blk_frozen HX.out.b5 0
 have t0 := blk_cell hb1 0
 have t1 := blk_cell hb1 1
 have t2 := blk_cell hb1 2
 have t3 := blk_cell hb1 3
 have t4 := blk_cell hb1 4
 have t5 := blk_cell hb1 5
 have t6 := blk_cell hb1 6
 have g0 := blk_frozen hb1 0
 have g1 := blk_frozen hb1 1
 have g2 := blk_frozen hb1 2
 have g3 := blk_frozen hb1 3
 have g4 := blk_frozen hb1 4
 have g5 := blk_frozen hb1 5
 have g6 := blk_frozen hb1 6
 clear hb1
 have k7 := K7.out
 have HT := Aside0.mk (take_any w.heap.size 8 s1 wz HX.out.b0 (by decide) HSZ.out)
 go_wp2_with fail
 refine HT.out.mono ?_
 rintro e w1 hr
 cases hq : sizedN 8 (bytesOf s1) with
 | none =>
  unfold TakeR at hr
  rw [hq] at hr
  obtain ⟨rfl, rfl⟩ := hr
  have HTK := Aside0.mk (show TT = .bad by rw [HTK0.out, hq]; rfl)
  clear hq HT HTK0
  go_wp2_with fail
  clear c0 f0 c2 c3 c4 f4 c5 f5 t0 t1 t2 t3 t4 t5 t6 g0 g1 g2 g3 g4 g5 g6
  refine wp_gen (F := fun wq => TB w wq s1 m tk0 0 false) ((HX.out.setN 0).setF false) ?_
  intro wz2 HZ
  have HX := Aside0.mk HZ
  clear HZ
  have hb1 := HX.out.b1
  unfold B57 at hb1
  have c0 := blk_cell HX.out.b0 0
  have f0 := blk_frozen HX.out.b0 0
  have c2 := blk_cell HX.out.b2 0
  have c3 := blk_cell HX.out.b3 0
  have c4 := blk_cell HX.out.b4 0
  have f4 := blk_frozen HX.out.b4 0
  have c5 := blk_cell HX.out.b5 0
  have f5 := blk_frozen HX.out.b5 0
  have t0 := blk_cell hb1 0
  have t1 := blk_cell hb1 1
  have t2 := blk_cell hb1 2
  have t3 := blk_cell hb1 3
  have t4 := blk_cell hb1 4
  have t5 := blk_cell hb1 5
  have t6 := blk_cell hb1 6
  have g0 := blk_frozen hb1 0
  have g1 := blk_frozen hb1 1
  have g2 := blk_frozen hb1 2
  have g3 := blk_frozen hb1 3
  have g4 := blk_frozen hb1 4
  have g5 := blk_frozen hb1 5
  have g6 := blk_frozen hb1 6
  clear hb1
  go_region
  go_wp2_with fail
  refine bodyPost_ret (results_cttt rfl _ _ (w.heap.size + 1) 57 (B57 ⟨2, false, 0, 0, ⟨#[]⟩, 0, 0⟩) (0, 0) _ rfl (fill57 (t2 := ⟨2, false, 0, 0, ⟨#[]⟩, 0, 0⟩) HX.out.b1) Try.underlying57 rfl (by kernel_rfl)) rfl ?_
  rw [HTK.out]
  exact ⟨below_drew (below7 HX.out.bel (by omega) _ _ _ _ _ _ _), ⟨2, false, 0, 0, ⟨#[]⟩, 0, 0⟩, s1, rfl, rfl⟩

 | some p =>
  obtain ⟨n, r⟩ := p
  unfold TakeR at hr
  rw [hq] at hr
  obtain ⟨rfl, s2, hs2, rfl⟩ := hr
  have HTK := Aside0.mk (show TT = .ok ⟨2, false, 0, n, ⟨#[]⟩, 0, 0⟩ r by rw [HTK0.out, hq]; rfl)
  have HS2 := Aside0.mk hs2
  have HB := Aside0.mk (HX.out.setB s2)
  clear hq hs2 HT HTK0
  clear c0 f0 c2 c3 c4 f4 c5 f5 t0 t1 t2 t3 t4 t5 t6 g0 g1 g2 g3 g4 g5 g6
  have d4 := blk_cell HB.out.b4 0
  have e4 := blk_frozen HB.out.b4 0
  have d5 := blk_cell HB.out.b5 0
  have e5 := blk_frozen HB.out.b5 0
  have d0 := blk_cell HB.out.b0 0
  have d2 := blk_cell HB.out.b2 0
  go_wp2_with fail
  clear d4 e4 d5 e5 d0 d2
  refine wp_gen (F := fun wq => TB w wq s2 m tk0 n true) ((HB.out.setN n).setF true) ?_
  intro wz2 HZ
  have HX := Aside0.mk HZ
  clear HZ
  have hb1 := HX.out.b1
  unfold B57 at hb1
  have c0 := blk_cell HX.out.b0 0
  have f0 := blk_frozen HX.out.b0 0
  have c2 := blk_cell HX.out.b2 0
  have c3 := blk_cell HX.out.b3 0
  have c4 := blk_cell HX.out.b4 0
  have f4 := blk_frozen HX.out.b4 0
  have c5 := blk_cell HX.out.b5 0
  have f5 := blk_frozen HX.out.b5 0
  have t0 := blk_cell hb1 0
  have t1 := blk_cell hb1 1
  have t2 := blk_cell hb1 2
  have t3 := blk_cell hb1 3
  have t4 := blk_cell hb1 4
  have t5 := blk_cell hb1 5
  have t6 := blk_cell hb1 6
  have g0 := blk_frozen hb1 0
  have g1 := blk_frozen hb1 1
  have g2 := blk_frozen hb1 2
  have g3 := blk_frozen hb1 3
  have g4 := blk_frozen hb1 4
  have g5 := blk_frozen hb1 5
  have g6 := blk_frozen hb1 6
  clear hb1
  go_region
  go_wp2_with fail
  refine bodyPost_ret (results_cttt rfl _ _ (w.heap.size + 1) 57 (B57 ⟨2, false, 0, n, ⟨#[]⟩, 0, 0⟩) (0, 0) _ rfl (fill57 (t2 := ⟨2, false, 0, n, ⟨#[]⟩, 0, 0⟩) HX.out.b1) Try.underlying57 rfl (by kernel_rfl)) rfl ?_
  rw [HTK.out]
  exact ⟨below_drew (below7 HX.out.bel (by omega) _ _ _ _ _ _ _), s2, HS2.out, rfl⟩

set_option maxHeartbeats 4000000 in
set_option maxRecDepth 100000 in
theorem token_c10 (s s1 : ByteArray) (m : Int) (w : World) (h0 : 0 < s.size) (hs : s.size ≤ 1000000000) (hm : ((s[0]'h0).toNat : Int) = m) (hs1 : s.extract 1 s.size = s1) (hm0 : 0 ≤ m) (hm1 : m ≤ 255) (k0 : ¬ (m < 128)) (k1 : ¬ (m < 144)) (k2 : ¬ (m < 160)) (k3 : ¬ (m < 176)) (k4 : ¬ (m < 192)) (k5 : ¬ (240 ≤ m)) (k6 : ¬ (m = 192)) (k7 : ¬ (m = 193)) (k8 : ¬ (m = 194)) (k9 : ¬ (m = 195)) (k10 : m = 200) :
  Calls Try.prog 58 #[.string s] w fun e w' => TokR (tksM (mark m).1 (mark m).2.1 (mark m).2.2 (bytesOf s1)) w e w' := by
 obtain ⟨TT, hTT⟩ : ∃ TT, TT = tksM (mark m).1 (mark m).2.1 (mark m).2.2 (bytesOf s1) := ⟨_, rfl⟩
 rw [← hTT]
 have HTT := Aside0.mk hTT
 clear hTT
 have hmk : mark m = (1, 0, 1) := by rw [k10]; exact mark_of rfl
 have HTK0 := Aside0.mk (show TT = tkv 1 (tkInt .i8 (sizedN 1 (bytesOf s1))) by rw [HTT.out, hmk]; rfl)
 clear hmk
 have K0 := Aside0.mk k0
 have K1 := Aside0.mk k1
 have K2 := Aside0.mk k2
 have K3 := Aside0.mk k3
 have K4 := Aside0.mk k4
 have K5 := Aside0.mk k5
 have K6 := Aside0.mk k6
 have K7 := Aside0.mk k7
 have K8 := Aside0.mk k8
 have K9 := Aside0.mk k9
 have K10 := Aside0.mk k10
 clear k0 k1 k2 k3 k4 k5 k6 k7 k8 k9 k10
 have ha := and15 m hm0 hm1
 have hw : IntKind.u64.wrap (m % 16) = m % 16 := by rw [IntKind.wrap_u64]; omega
 have h0i : (0 : Int) < (s.size : Int) := by omega
 have hne : s.toList.isEmpty = false := by
  rw [Bool.eq_false_iff]
  intro h
  have h1 : s.toList = [] := by simpa using h
  have h2 : s.size = 0 := by rw [← toList_len, h1]; rfl
  omega
 have hs1z : s1.size ≤ 1000000000 := by rw [← hs1, ByteArray.size_extract]; omega
 have HSZ := Aside0.mk hs1z
 clear hs1z
 go_enter Try.func58, Try.ntmps58
 go_upto_region 9 with fail
 refine wp_gen (F := fun wz => TB w wz s1 m tk0 (m % 16) true) ?_ ?_
 ·obtain ⟨x0, x1, x2, x3, x4, x5⟩ := six_boxes w (.cells #[.string s1] 9) (.cells (B57 tk0) 57) (.cells #[.int .u8 m] 5) (.cells #[.func (.func 107) #[] #[.pointer (some ⟨w.heap.size, 0, none⟩)]] 161) (.cells #[.int .u64 (m % 16)] 22) (.cells #[.bool true] 4)
  exact ⟨six_below w _ _ _ _ _ _, x0, x1, x2, x3, x4, x5⟩
 intro wz HZ
 have H := Aside0.mk HZ
 have HX := H
 clear HZ hm hs1 h0 hne ha hw h0i
 have hb1 := HX.out.b1
 unfold B57 tk0 at hb1
 have c0 := blk_cell HX.out.b0 0
 have f0 := blk_frozen HX.out.b0 0
 have c2 := blk_cell HX.out.b2 0
 have c3 := blk_cell HX.out.b3 0
 have c4 := blk_cell HX.out.b4 0
 have f4 := blk_frozen HX.out.b4 0
 have c5 := blk_cell HX.out.b5 0
 have f5 := blk_frozen HX.out.b5 0
 have t0 := blk_cell hb1 0
 have t1 := blk_cell hb1 1
 have t2 := blk_cell hb1 2
 have t3 := blk_cell hb1 3
 have t4 := blk_cell hb1 4
 have t5 := blk_cell hb1 5
 have t6 := blk_cell hb1 6
 have g0 := blk_frozen hb1 0
 have g1 := blk_frozen hb1 1
 have g2 := blk_frozen hb1 2
 have g3 := blk_frozen hb1 3
 have g4 := blk_frozen hb1 4
 have g5 := blk_frozen hb1 5
 have g6 := blk_frozen hb1 6
 clear hb1
 have k10 := K10.out
 have HT := Aside0.mk (take_any w.heap.size 1 s1 wz HX.out.b0 (by decide) HSZ.out)
 go_wp2_with fail
 refine HT.out.mono ?_
 rintro e w1 hr
 cases hq : sizedN 1 (bytesOf s1) with
 | none =>
  unfold TakeR at hr
  rw [hq] at hr
  obtain ⟨rfl, rfl⟩ := hr
  have HTK := Aside0.mk (show TT = .bad by rw [HTK0.out, hq]; rfl)
  clear hq HT HTK0
  go_wp2_with fail
  clear c0 f0 c2 c3 c4 f4 c5 f5 t0 t1 t2 t3 t4 t5 t6 g0 g1 g2 g3 g4 g5 g6
  refine wp_gen (F := fun wq => TB w wq s1 m tk0 0 false) ((HX.out.setN 0).setF false) ?_
  intro wz2 HZ
  have HX := Aside0.mk HZ
  clear HZ
  have hb1 := HX.out.b1
  unfold B57 at hb1
  have c0 := blk_cell HX.out.b0 0
  have f0 := blk_frozen HX.out.b0 0
  have c2 := blk_cell HX.out.b2 0
  have c3 := blk_cell HX.out.b3 0
  have c4 := blk_cell HX.out.b4 0
  have f4 := blk_frozen HX.out.b4 0
  have c5 := blk_cell HX.out.b5 0
  have f5 := blk_frozen HX.out.b5 0
  have t0 := blk_cell hb1 0
  have t1 := blk_cell hb1 1
  have t2 := blk_cell hb1 2
  have t3 := blk_cell hb1 3
  have t4 := blk_cell hb1 4
  have t5 := blk_cell hb1 5
  have t6 := blk_cell hb1 6
  have g0 := blk_frozen hb1 0
  have g1 := blk_frozen hb1 1
  have g2 := blk_frozen hb1 2
  have g3 := blk_frozen hb1 3
  have g4 := blk_frozen hb1 4
  have g5 := blk_frozen hb1 5
  have g6 := blk_frozen hb1 6
  clear hb1
  go_region
  go_wp2_with fail
  refine bodyPost_ret (results_cttt rfl _ _ (w.heap.size + 1) 57 (B57 ⟨1, false, 0, 0, ⟨#[]⟩, 0, 0⟩) (0, 0) _ rfl (fill57 (t2 := ⟨1, false, 0, 0, ⟨#[]⟩, 0, 0⟩) HX.out.b1) Try.underlying57 rfl (by kernel_rfl)) rfl ?_
  rw [HTK.out]
  exact ⟨below_drew (below7 HX.out.bel (by omega) _ _ _ _ _ _ _), ⟨1, false, 0, 0, ⟨#[]⟩, 0, 0⟩, s1, rfl, rfl⟩

 | some p =>
  obtain ⟨n, r⟩ := p
  unfold TakeR at hr
  rw [hq] at hr
  obtain ⟨rfl, s2, hs2, rfl⟩ := hr
  have HTK := Aside0.mk (show TT = .ok ⟨1, false, IntKind.i8.wrap n, 0, ⟨#[]⟩, 0, 0⟩ r by rw [HTK0.out, hq]; rfl)
  have HS2 := Aside0.mk hs2
  have HB := Aside0.mk (HX.out.setB s2)
  have hnr := sized_range hq (bytesOf_bytes s1)
  have hiv := shift1 n hnr.1 hnr.2
  clear hnr
  clear hq hs2 HT HTK0
  clear c0 f0 c2 c3 c4 f4 c5 f5 t0 t1 t2 t3 t4 t5 t6 g0 g1 g2 g3 g4 g5 g6
  have d4 := blk_cell HB.out.b4 0
  have e4 := blk_frozen HB.out.b4 0
  have d5 := blk_cell HB.out.b5 0
  have e5 := blk_frozen HB.out.b5 0
  have d0 := blk_cell HB.out.b0 0
  have d2 := blk_cell HB.out.b2 0
  go_wp2_with fail
  clear d4 e4 d5 e5 d0 d2
  refine wp_gen (F := fun wq => TB w wq s2 m tk0 n true) ((HB.out.setN n).setF true) ?_
  intro wz2 HZ
  have HX := Aside0.mk HZ
  clear HZ
  have hb1 := HX.out.b1
  unfold B57 at hb1
  have c0 := blk_cell HX.out.b0 0
  have f0 := blk_frozen HX.out.b0 0
  have c2 := blk_cell HX.out.b2 0
  have c3 := blk_cell HX.out.b3 0
  have c4 := blk_cell HX.out.b4 0
  have f4 := blk_frozen HX.out.b4 0
  have c5 := blk_cell HX.out.b5 0
  have f5 := blk_frozen HX.out.b5 0
  have t0 := blk_cell hb1 0
  have t1 := blk_cell hb1 1
  have t2 := blk_cell hb1 2
  have t3 := blk_cell hb1 3
  have t4 := blk_cell hb1 4
  have t5 := blk_cell hb1 5
  have t6 := blk_cell hb1 6
  have g0 := blk_frozen hb1 0
  have g1 := blk_frozen hb1 1
  have g2 := blk_frozen hb1 2
  have g3 := blk_frozen hb1 3
  have g4 := blk_frozen hb1 4
  have g5 := blk_frozen hb1 5
  have g6 := blk_frozen hb1 6
  clear hb1
  go_region
  go_wp2_with fail
  refine bodyPost_ret (results_cttt rfl _ _ (w.heap.size + 1) 57 (B57 ⟨1, false, IntKind.i8.wrap n, 0, ⟨#[]⟩, 0, 0⟩) (0, 0) _ rfl (fill57 (t2 := ⟨1, false, IntKind.i8.wrap n, 0, ⟨#[]⟩, 0, 0⟩) HX.out.b1) Try.underlying57 rfl (by kernel_rfl)) rfl ?_
  rw [HTK.out]
  exact ⟨below_drew (below7 HX.out.bel (by omega) _ _ _ _ _ _ _), s2, HS2.out, rfl⟩

end Go.Proofs.Ytjnookhdiolhgaa
