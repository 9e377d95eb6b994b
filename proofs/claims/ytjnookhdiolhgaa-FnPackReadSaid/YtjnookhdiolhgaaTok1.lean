/- spec.token, cases of the marker. (seat r1; printed by gen_tok.py) -/
import Derived.Test.YtjnookhdiolhgaaTokB
namespace Go.Proofs.Ytjnookhdiolhgaa
set_option linter.unusedVariables false
set_option linter.unusedSimpArgs false
open Go.RowKit Go.Proofs.YtjnookhdiolhgaaW.PrintWords

set_option maxHeartbeats 4000000 in
set_option maxRecDepth 100000 in
theorem token_c0 (s s1 : ByteArray) (m : Int) (w : World) (h0 : 0 < s.size) (hs : s.size ≤ 1000000000) (hm : ((s[0]'h0).toNat : Int) = m) (hs1 : s.extract 1 s.size = s1) (hm0 : 0 ≤ m) (hm1 : m ≤ 255)  (k0 : m < 128) :
  Calls Try.prog 58 #[.string s] w fun e w' => TokR (tksM (mark m).1 (mark m).2.1 (mark m).2.2 (bytesOf s1)) w e w' := by
 obtain ⟨TT, hTT⟩ : ∃ TT, TT = tksM (mark m).1 (mark m).2.1 (mark m).2.2 (bytesOf s1) := ⟨_, rfl⟩
 rw [← hTT]
 have HTT := Aside0.mk hTT
 clear hTT
 have hmk : mark m = (1, m, 0) := mark_of (by
  unfold PAll.packstream_markerOf.f
  rw [if_pos k0]
  have hw : IntKind.i8.wrap (m) = m := by rw [wrap_i8']; omega
  rw [hw])
 have HTK := Aside0.mk (show TT = .ok ⟨1, false, m, 0, ⟨#[]⟩, 0, 0⟩ (bytesOf s1) by rw [HTT.out, hmk]; simp [tksM, tokM, intM, tkv, vI, vN, vB])
 clear hmk
 have K0 := Aside0.mk k0
 clear k0
 have ha := and15 m hm0 hm1
 have hw : IntKind.u64.wrap (m % 16) = m % 16 := by rw [IntKind.wrap_u64]; omega
 have h0i : (0 : Int) < (s.size : Int) := by omega
 have hne : s.toList.isEmpty = false := by
  rw [Bool.eq_false_iff]
  intro h
  have h1 : s.toList = [] := by simpa using h
  have h2 : s.size = 0 := by rw [← toList_len, h1]; rfl
  omega
 have hs1z : s1.size ≤ 1000000000 := by rw [← hs1, ByteArray.size_extract]; omega
 have HSZ := Aside0.mk hs1z
 clear hs1z
 go_enter Try.func58, Try.ntmps58
 go_upto_region 9 with fail
 refine wp_gen (F := fun wz => TB w wz s1 m tk0 (m % 16) true) ?_ ?_
 ·obtain ⟨x0, x1, x2, x3, x4, x5⟩ := six_boxes w (.cells #[.string s1] 9) (.cells (B57 tk0) 57) (.cells #[.int .u8 m] 5) (.cells #[.func (.func 107) #[] #[.pointer (some ⟨w.heap.size, 0, none⟩)]] 161) (.cells #[.int .u64 (m % 16)] 22) (.cells #[.bool true] 4)
  exact ⟨six_below w _ _ _ _ _ _, x0, x1, x2, x3, x4, x5⟩
 intro wz HZ
 have H := Aside0.mk HZ
 have HX := H
 clear HZ hm hs1 h0 hne ha hw h0i
 have hb1 := HX.out.b1
 unfold B57 tk0 at hb1
 have c0 := blk_cell HX.out.b0 0
 have f0 := blk_frozen HX.out.b0 0
 have c2 := blk_cell HX.out.b2 0
 have c3 := blk_cell HX.out.b3 0
 have c4 := blk_cell HX.out.b4 0
 have f4 := blk_frozen HX.out.b4 0
 have c5 := blk_cell HX.out.b5 0
 have f5 := blk_frozen HX.out.b5 0
 have t0 := blk_cell hb1 0
 have t1 := blk_cell hb1 1
 have t2 := blk_cell hb1 2
 have t3 := blk_cell hb1 3
 have t4 := blk_cell hb1 4
 have t5 := blk_cell hb1 5
 have t6 := blk_cell hb1 6
 have g0 := blk_frozen hb1 0
 have g1 := blk_frozen hb1 1
 have g2 := blk_frozen hb1 2
 have g3 := blk_frozen hb1 3
 have g4 := blk_frozen hb1 4
 have g5 := blk_frozen hb1 5
 have g6 := blk_frozen hb1 6
 clear hb1
 have k0 := K0.out
 go_wp2_with fail
 go_region
 go_wp2_with fail
 refine bodyPost_ret (results_cttt rfl _ _ (w.heap.size + 1) 57 (B57 ⟨1, false, m, 0, ⟨#[]⟩, 0, 0⟩) (0, 0) _ rfl (fill57 (t2 := ⟨1, false, m, 0, ⟨#[]⟩, 0, 0⟩) HX.out.b1) Try.underlying57 rfl (by kernel_rfl)) rfl ?_
 rw [HTK.out]
 exact ⟨below_drew (below7 HX.out.bel (by omega) _ _ _ _ _ _ _), s1, rfl, rfl⟩

set_option maxHeartbeats 4000000 in
set_option maxRecDepth 100000 in
theorem token_c5 (s s1 : ByteArray) (m : Int) (w : World) (h0 : 0 < s.size) (hs : s.size ≤ 1000000000) (hm : ((s[0]'h0).toNat : Int) = m) (hs1 : s.extract 1 s.size = s1) (hm0 : 0 ≤ m) (hm1 : m ≤ 255) (k0 : ¬ (m < 128)) (k1 : ¬ (m < 144)) (k2 : ¬ (m < 160)) (k3 : ¬ (m < 176)) (k4 : ¬ (m < 192)) (k5 : 240 ≤ m) :
  Calls Try.prog 58 #[.string s] w fun e w' => TokR (tksM (mark m).1 (mark m).2.1 (mark m).2.2 (bytesOf s1)) w e w' := by
 obtain ⟨TT, hTT⟩ : ∃ TT, TT = tksM (mark m).1 (mark m).2.1 (mark m).2.2 (bytesOf s1) := ⟨_, rfl⟩
 rw [← hTT]
 have HTT := Aside0.mk hTT
 clear hTT
 have hmk : mark m = (1, (m - 256), 0) := mark_of (by
  unfold PAll.packstream_markerOf.f
  rw [if_neg k0, if_neg k1, if_neg k2, if_neg k3, if_neg k4, if_pos k5]
  have hw : IntKind.i8.wrap (wrap64 (wrap64 m - 256)) = (m - 256) := by unfold wrap64; rw [wrap_i8']; omega
  rw [hw])
 have HTK := Aside0.mk (show TT = .ok ⟨1, false, m - 256, 0, ⟨#[]⟩, 0, 0⟩ (bytesOf s1) by rw [HTT.out, hmk]; simp [tksM, tokM, intM, tkv, vI, vN, vB])
 clear hmk
 have K0 := Aside0.mk k0
 have K1 := Aside0.mk k1
 have K2 := Aside0.mk k2
 have K3 := Aside0.mk k3
 have K4 := Aside0.mk k4
 have K5 := Aside0.mk k5
 clear k0 k1 k2 k3 k4 k5
 have ha := and15 m hm0 hm1
 have hw : IntKind.u64.wrap (m % 16) = m % 16 := by rw [IntKind.wrap_u64]; omega
 have h0i : (0 : Int) < (s.size : Int) := by omega
 have hne : s.toList.isEmpty = false := by
  rw [Bool.eq_false_iff]
  intro h
  have h1 : s.toList = [] := by simpa using h
  have h2 : s.size = 0 := by rw [← toList_len, h1]; rfl
  omega
 have hs1z : s1.size ≤ 1000000000 := by rw [← hs1, ByteArray.size_extract]; omega
 have HSZ := Aside0.mk hs1z
 clear hs1z
 go_enter Try.func58, Try.ntmps58
 go_upto_region 9 with fail
 refine wp_gen (F := fun wz => TB w wz s1 m tk0 (m % 16) true) ?_ ?_
 ·obtain ⟨x0, x1, x2, x3, x4, x5⟩ := six_boxes w (.cells #[.string s1] 9) (.cells (B57 tk0) 57) (.cells #[.int .u8 m] 5) (.cells #[.func (.func 107) #[] #[.pointer (some ⟨w.heap.size, 0, none⟩)]] 161) (.cells #[.int .u64 (m % 16)] 22) (.cells #[.bool true] 4)
  exact ⟨six_below w _ _ _ _ _ _, x0, x1, x2, x3, x4, x5⟩
 intro wz HZ
 have H := Aside0.mk HZ
 have HX := H
 clear HZ hm hs1 h0 hne ha hw h0i
 have hb1 := HX.out.b1
 unfold B57 tk0 at hb1
 have c0 := blk_cell HX.out.b0 0
 have f0 := blk_frozen HX.out.b0 0
 have c2 := blk_cell HX.out.b2 0
 have c3 := blk_cell HX.out.b3 0
 have c4 := blk_cell HX.out.b4 0
 have f4 := blk_frozen HX.out.b4 0
 have c5 := blk_cell HX.out.b5 0
 have f5 := blk_frozen HX.out.b5 0
 have t0 := blk_cell hb1 0
 have t1 := blk_cell hb1 1
 have t2 := blk_cell hb1 2
 have t3 := blk_cell hb1 3
 have t4 := blk_cell hb1 4
 have t5 := blk_cell hb1 5
 have t6 := blk_cell hb1 6
 have g0 := blk_frozen hb1 0
 have g1 := blk_frozen hb1 1
 have g2 := blk_frozen hb1 2
 have g3 := blk_frozen hb1 3
 have g4 := blk_frozen hb1 4
 have g5 := blk_frozen hb1 5
 have g6 := blk_frozen hb1 6
 clear hb1
 have k0 := K0.out
 have k1 := K1.out
 have k2 := K2.out
 have k3 := K3.out
 have k4 := K4.out
 have k5 := K5.out
 have hi8 : IntKind.i8.wrap m = m - 256 := by rw [wrap_i8']; omega
 go_wp2_with fail
 go_region
 go_wp2_with fail
 refine bodyPost_ret (results_cttt rfl _ _ (w.heap.size + 1) 57 (B57 ⟨1, false, m - 256, 0, ⟨#[]⟩, 0, 0⟩) (0, 0) _ rfl (fill57 (t2 := ⟨1, false, m - 256, 0, ⟨#[]⟩, 0, 0⟩) HX.out.b1) Try.underlying57 rfl (by kernel_rfl)) rfl ?_
 rw [HTK.out]
 exact ⟨below_drew (below7 HX.out.bel (by omega) _ _ _ _ _ _ _), s1, rfl, rfl⟩

set_option maxHeartbeats 4000000 in
set_option maxRecDepth 100000 in
theorem token_c6 (s s1 : ByteArray) (m : Int) (w : World) (h0 : 0 < s.size) (hs : s.size ≤ 1000000000) (hm : ((s[0]'h0).toNat : Int) = m) (hs1 : s.extract 1 s.size = s1) (hm0 : 0 ≤ m) (hm1 : m ≤ 255) (k0 : ¬ (m < 128)) (k1 : ¬ (m < 144)) (k2 : ¬ (m < 160)) (k3 : ¬ (m < 176)) (k4 : ¬ (m < 192)) (k5 : ¬ (240 ≤ m)) (k6 : m = 192) :
  Calls Try.prog 58 #[.string s] w fun e w' => TokR (tksM (mark m).1 (mark m).2.1 (mark m).2.2 (bytesOf s1)) w e w' := by
 obtain ⟨TT, hTT⟩ : ∃ TT, TT = tksM (mark m).1 (mark m).2.1 (mark m).2.2 (bytesOf s1) := ⟨_, rfl⟩
 rw [← hTT]
 have HTT := Aside0.mk hTT
 clear hTT
 have hmk : mark m = (8, 0, 0) := by rw [k6]; exact mark_of rfl
 have HTK := Aside0.mk (show TT = .ok ⟨8, false, 0, 0, ⟨#[]⟩, 0, 0⟩ (bytesOf s1) by rw [HTT.out, hmk]; simp [tksM, tokM, intM, tkv, vI, vN, vB])
 clear hmk
 have K0 := Aside0.mk k0
 have K1 := Aside0.mk k1
 have K2 := Aside0.mk k2
 have K3 := Aside0.mk k3
 have K4 := Aside0.mk k4
 have K5 := Aside0.mk k5
 have K6 := Aside0.mk k6
 clear k0 k1 k2 k3 k4 k5 k6
 have ha := and15 m hm0 hm1
 have hw : IntKind.u64.wrap (m % 16) = m % 16 := by rw [IntKind.wrap_u64]; omega
 have h0i : (0 : Int) < (s.size : Int) := by omega
 have hne : s.toList.isEmpty = false := by
  rw [Bool.eq_false_iff]
  intro h
  have h1 : s.toList = [] := by simpa using h
  have h2 : s.size = 0 := by rw [← toList_len, h1]; rfl
  omega
 have hs1z : s1.size ≤ 1000000000 := by rw [← hs1, ByteArray.size_extract]; omega
 have HSZ := Aside0.mk hs1z
 clear hs1z
 go_enter Try.func58, Try.ntmps58
 go_upto_region 9 with fail
 refine wp_gen (F := fun wz => TB w wz s1 m tk0 (m % 16) true) ?_ ?_
 ·obtain ⟨x0, x1, x2, x3, x4, x5⟩ := six_boxes w (.cells #[.string s1] 9) (.cells (B57 tk0) 57) (.cells #[.int .u8 m] 5) (.cells #[.func (.func 107) #[] #[.pointer (some ⟨w.heap.size, 0, none⟩)]] 161) (.cells #[.int .u64 (m % 16)] 22) (.cells #[.bool true] 4)
  exact ⟨six_below w _ _ _ _ _ _, x0, x1, x2, x3, x4, x5⟩
 intro wz HZ
 have H := Aside0.mk HZ
 have HX := H
 clear HZ hm hs1 h0 hne ha hw h0i
 have hb1 := HX.out.b1
 unfold B57 tk0 at hb1
 have c0 := blk_cell HX.out.b0 0
 have f0 := blk_frozen HX.out.b0 0
 have c2 := blk_cell HX.out.b2 0
 have c3 := blk_cell HX.out.b3 0
 have c4 := blk_cell HX.out.b4 0
 have f4 := blk_frozen HX.out.b4 0
 have c5 := blk_cell HX.out.b5 0
 have f5 := blk_frozen HX.out.b5 0
 have t0 := blk_cell hb1 0
 have t1 := blk_cell hb1 1
 have t2 := blk_cell hb1 2
 have t3 := blk_cell hb1 3
 have t4 := blk_cell hb1 4
 have t5 := blk_cell hb1 5
 have t6 := blk_cell hb1 6
 have g0 := blk_frozen hb1 0
 have g1 := blk_frozen hb1 1
 have g2 := blk_frozen hb1 2
 have g3 := blk_frozen hb1 3
 have g4 := blk_frozen hb1 4
 have g5 := blk_frozen hb1 5
 have g6 := blk_frozen hb1 6
 clear hb1
 have k6 := K6.out
 go_wp2_with fail
 go_region
 go_wp2_with fail
 refine bodyPost_ret (results_cttt rfl _ _ (w.heap.size + 1) 57 (B57 ⟨8, false, 0, 0, ⟨#[]⟩, 0, 0⟩) (0, 0) _ rfl (fill57 (t2 := ⟨8, false, 0, 0, ⟨#[]⟩, 0, 0⟩) HX.out.b1) Try.underlying57 rfl (by kernel_rfl)) rfl ?_
 rw [HTK.out]
 exact ⟨below_drew (below7 HX.out.bel (by omega) _ _ _ _ _ _ _), s1, rfl, rfl⟩

set_option maxHeartbeats 4000000 in
set_option maxRecDepth 100000 in
theorem token_c8 (s s1 : ByteArray) (m : Int) (w : World) (h0 : 0 < s.size) (hs : s.size ≤ 1000000000) (hm : ((s[0]'h0).toNat : Int) = m) (hs1 : s.extract 1 s.size = s1) (hm0 : 0 ≤ m) (hm1 : m ≤ 255) (k0 : ¬ (m < 128)) (k1 : ¬ (m < 144)) (k2 : ¬ (m < 160)) (k3 : ¬ (m < 176)) (k4 : ¬ (m < 192)) (k5 : ¬ (240 ≤ m)) (k6 : ¬ (m = 192)) (k7 : ¬ (m = 193)) (k8 : m = 194) :
  Calls Try.prog 58 #[.string s] w fun e w' => TokR (tksM (mark m).1 (mark m).2.1 (mark m).2.2 (bytesOf s1)) w e w' := by
 obtain ⟨TT, hTT⟩ : ∃ TT, TT = tksM (mark m).1 (mark m).2.1 (mark m).2.2 (bytesOf s1) := ⟨_, rfl⟩
 rw [← hTT]
 have HTT := Aside0.mk hTT
 clear hTT
 have hmk : mark m = (10, 0, 0) := by rw [k8]; exact mark_of rfl
 have HTK := Aside0.mk (show TT = .ok ⟨10, false, 0, 0, ⟨#[]⟩, 0, 0⟩ (bytesOf s1) by rw [HTT.out, hmk]; simp [tksM, tokM, intM, tkv, vI, vN, vB])
 clear hmk
 have K0 := Aside0.mk k0
 have K1 := Aside0.mk k1
 have K2 := Aside0.mk k2
 have K3 := Aside0.mk k3
 have K4 := Aside0.mk k4
 have K5 := Aside0.mk k5
 have K6 := Aside0.mk k6
 have K7 := Aside0.mk k7
 have K8 := Aside0.mk k8
 clear k0 k1 k2 k3 k4 k5 k6 k7 k8
 have ha := and15 m hm0 hm1
 have hw : IntKind.u64.wrap (m % 16) = m % 16 := by rw [IntKind.wrap_u64]; omega
 have h0i : (0 : Int) < (s.size : Int) := by omega
 have hne : s.toList.isEmpty = false := by
  rw [Bool.eq_false_iff]
  intro h
  have h1 : s.toList = [] := by simpa using h
  have h2 : s.size = 0 := by rw [← toList_len, h1]; rfl
  omega
 have hs1z : s1.size ≤ 1000000000 := by rw [← hs1, ByteArray.size_extract]; omega
 have HSZ := Aside0.mk hs1z
 clear hs1z
 go_enter Try.func58, Try.ntmps58
 go_upto_region 9 with fail
 refine wp_gen (F := fun wz => TB w wz s1 m tk0 (m % 16) true) ?_ ?_
 ·obtain ⟨x0, x1, x2, x3, x4, x5⟩ := six_boxes w (.cells #[.string s1] 9) (.cells (B57 tk0) 57) (.cells #[.int .u8 m] 5) (.cells #[.func (.func 107) #[] #[.pointer (some ⟨w.heap.size, 0, none⟩)]] 161) (.cells #[.int .u64 (m % 16)] 22) (.cells #[.bool true] 4)
  exact ⟨six_below w _ _ _ _ _ _, x0, x1, x2, x3, x4, x5⟩
 intro wz HZ
 have H := Aside0.mk HZ
 have HX := H
 clear HZ hm hs1 h0 hne ha hw h0i
 have hb1 := HX.out.b1
 unfold B57 tk0 at hb1
 have c0 := blk_cell HX.out.b0 0
 have f0 := blk_frozen HX.out.b0 0
 have c2 := blk_cell HX.out.b2 0
 have c3 := blk_cell HX.out.b3 0
 have c4 := blk_cell HX.out.b4 0
 have f4 := blk_frozen HX.out.b4 0
 have c5 := blk_cell HX.out.b5 0
 have f5 := blk_frozen HX.out.b5 0
 have t0 := blk_cell hb1 0
 have t1 := blk_cell hb1 1
 have t2 := blk_cell hb1 2
 have t3 := blk_cell hb1 3
 have t4 := blk_cell hb1 4
 have t5 := blk_cell hb1 5
 have t6 := blk_cell hb1 6
 have g0 := blk_frozen hb1 0
 have g1 := blk_frozen hb1 1
 have g2 := blk_frozen hb1 2
 have g3 := blk_frozen hb1 3
 have g4 := blk_frozen hb1 4
 have g5 := blk_frozen hb1 5
 have g6 := blk_frozen hb1 6
 clear hb1
 have k8 := K8.out
 go_wp2_with fail
 go_region
 go_wp2_with fail
 refine bodyPost_ret (results_cttt rfl _ _ (w.heap.size + 1) 57 (B57 ⟨10, false, 0, 0, ⟨#[]⟩, 0, 0⟩) (0, 0) _ rfl (fill57 (t2 := ⟨10, false, 0, 0, ⟨#[]⟩, 0, 0⟩) HX.out.b1) Try.underlying57 rfl (by kernel_rfl)) rfl ?_
 rw [HTK.out]
 exact ⟨below_drew (below7 HX.out.bel (by omega) _ _ _ _ _ _ _), s1, rfl, rfl⟩

set_option maxHeartbeats 4000000 in
set_option maxRecDepth 100000 in
theorem token_c9 (s s1 : ByteArray) (m : Int) (w : World) (h0 : 0 < s.size) (hs : s.size ≤ 1000000000) (hm : ((s[0]'h0).toNat : Int) = m) (hs1 : s.extract 1 s.size = s1) (hm0 : 0 ≤ m) (hm1 : m ≤ 255) (k0 : ¬ (m < 128)) (k1 : ¬ (m < 144)) (k2 : ¬ (m < 160)) (k3 : ¬ (m < 176)) (k4 : ¬ (m < 192)) (k5 : ¬ (240 ≤ m)) (k6 : ¬ (m = 192)) (k7 : ¬ (m = 193)) (k8 : ¬ (m = 194)) (k9 : m = 195) :
  Calls Try.prog 58 #[.string s] w fun e w' => TokR (tksM (mark m).1 (mark m).2.1 (mark m).2.2 (bytesOf s1)) w e w' := by
 obtain ⟨TT, hTT⟩ : ∃ TT, TT = tksM (mark m).1 (mark m).2.1 (mark m).2.2 (bytesOf s1) := ⟨_, rfl⟩
 rw [← hTT]
 have HTT := Aside0.mk hTT
 clear hTT
 have hmk : mark m = (9, 0, 0) := by rw [k9]; exact mark_of rfl
 have HTK := Aside0.mk (show TT = .ok ⟨9, true, 0, 0, ⟨#[]⟩, 0, 0⟩ (bytesOf s1) by rw [HTT.out, hmk]; simp [tksM, tokM, intM, tkv, vI, vN, vB])
 clear hmk
 have K0 := Aside0.mk k0
 have K1 := Aside0.mk k1
 have K2 := Aside0.mk k2
 have K3 := Aside0.mk k3
 have K4 := Aside0.mk k4
 have K5 := Aside0.mk k5
 have K6 := Aside0.mk k6
 have K7 := Aside0.mk k7
 have K8 := Aside0.mk k8
 have K9 := Aside0.mk k9
 clear k0 k1 k2 k3 k4 k5 k6 k7 k8 k9
 have ha := and15 m hm0 hm1
 have hw : IntKind.u64.wrap (m % 16) = m % 16 := by rw [IntKind.wrap_u64]; omega
 have h0i : (0 : Int) < (s.size : Int) := by omega
 have hne : s.toList.isEmpty = false := by
  rw [Bool.eq_false_iff]
  intro h
  have h1 : s.toList = [] := by simpa using h
  have h2 : s.size = 0 := by rw [← toList_len, h1]; rfl
  omega
 have hs1z : s1.size ≤ 1000000000 := by rw [← hs1, ByteArray.size_extract]; omega
 have HSZ := Aside0.mk hs1z
 clear hs1z
 go_enter Try.func58, Try.ntmps58
 go_upto_region 9 with fail
 refine wp_gen (F := fun wz => TB w wz s1 m tk0 (m % 16) true) ?_ ?_
 ·obtain ⟨x0, x1, x2, x3, x4, x5⟩ := six_boxes w (.cells #[.string s1] 9) (.cells (B57 tk0) 57) (.cells #[.int .u8 m] 5) (.cells #[.func (.func 107) #[] #[.pointer (some ⟨w.heap.size, 0, none⟩)]] 161) (.cells #[.int .u64 (m % 16)] 22) (.cells #[.bool true] 4)
  exact ⟨six_below w _ _ _ _ _ _, x0, x1, x2, x3, x4, x5⟩
 intro wz HZ
 have H := Aside0.mk HZ
 have HX := H
 clear HZ hm hs1 h0 hne ha hw h0i
 have hb1 := HX.out.b1
 unfold B57 tk0 at hb1
 have c0 := blk_cell HX.out.b0 0
 have f0 := blk_frozen HX.out.b0 0
 have c2 := blk_cell HX.out.b2 0
 have c3 := blk_cell HX.out.b3 0
 have c4 := blk_cell HX.out.b4 0
 have f4 := blk_frozen HX.out.b4 0
 have c5 := blk_cell HX.out.b5 0
 have f5 := blk_frozen HX.out.b5 0
 have t0 := blk_cell hb1 0
 have t1 := blk_cell hb1 1
 have t2 := blk_cell hb1 2
 have t3 := blk_cell hb1 3
 have t4 := blk_cell hb1 4
 have t5 := blk_cell hb1 5
 have t6 := blk_cell hb1 6
 have g0 := blk_frozen hb1 0
 have g1 := blk_frozen hb1 1
 have g2 := blk_frozen hb1 2
 have g3 := blk_frozen hb1 3
 have g4 := blk_frozen hb1 4
 have g5 := blk_frozen hb1 5
 have g6 := blk_frozen hb1 6
 clear hb1
 have k9 := K9.out
 go_wp2_with fail
 go_region
 go_wp2_with fail
 refine bodyPost_ret (results_cttt rfl _ _ (w.heap.size + 1) 57 (B57 ⟨9, true, 0, 0, ⟨#[]⟩, 0, 0⟩) (0, 0) _ rfl (fill57 (t2 := ⟨9, true, 0, 0, ⟨#[]⟩, 0, 0⟩) HX.out.b1) Try.underlying57 rfl (by kernel_rfl)) rfl ?_
 rw [HTK.out]
 exact ⟨below_drew (below7 HX.out.bel (by omega) _ _ _ _ _ _ _), s1, rfl, rfl⟩

end Go.Proofs.Ytjnookhdiolhgaa
