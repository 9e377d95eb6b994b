/- FnFrameRead: spec.Response, spec.Frame, the walk. (seat r2) -/
import Derived.Test.YtnbhledkdkchlaaFr6
import Derived.Test.YtnbhledkdkchlaaPspecnumberOf
import Derived.Test.YtnbhledkdkchlaaPspecUnpackFrame
import Derived.OpenShut
namespace Go.Proofs.Ytnbhledkdkchlaa
set_option linter.unusedVariables false
set_option linter.unusedSimpArgs false
open Go.RowKit Go.Proofs.YtnbhledkdkchlaaW.PrintWords
open PAll (spec_numberOf.l0 spec_numberOf.f spec_UnpackFrame.f)

theorem pw_below_drawn0 {n : Nat} {w w1 w2 : World} (h : Below n w w1) (d : Drawn0 w1 w2) : Below n w w2 := by
  obtain ⟨nd, rfl⟩ := d
  exact pw_below_drewN h nd
theorem results_tmp5 {fn : Func} {t u v x y : Tmp} (h : fn.results = #[.tmp t, .tmp u, .tmp v, .tmp x, .tmp y]) (tmps : Array Value) (P : Program) (w : World) :
    (results fn tmps).run P w = .ok (.tuple #[tmps.getD t undef, tmps.getD u undef, tmps.getD v undef, tmps.getD x undef, tmps.getD y undef]) w := by
  simp [results, h]
theorem bt_rd (s : ByteArray) (j : Nat) (hj : j < s.size) : bt s (j : Int) = rd (bytesOf s) (j : Int) := by
  rw [bt_nat s j hj]
  obtain ⟨⟨l⟩⟩ := s
  have hj' : j < l.length := hj
  unfold rd bytesOf
  rw [Int.toNat_natCast, List.getD_eq_getElem?_getD, List.getElem?_map]
  simp only
  rw [List.getElem?_eq_getElem hj']
  rfl
theorem or64' (i : Nat) (a b : Int) (ha : 0 ≤ a) (ha1 : a < 2 ^ 64) (hd : a % 2 ^ i = 0) (hb : 0 ≤ b) (hb1 : b < 2 ^ i) (hb2 : b < 2 ^ 64) : Go.bits .or .u64 a b = a + b :=
  bits_join .u64 64 (by decide) (fun n h0 h1 => by rw [IntKind.wrap_u64]; omega) i _ _ ha hd ha1 hb hb1 hb2
theorem num_step (k : Nat) (s : ByteArray) (j : Nat) (hj : j < s.size) (hs : s.size ≤ 8) (x a : Int) (h0 : 0 ≤ x) (h1 : x < 72057594037927936) (ha : bt s (j : Int) = a) (ha0 : 0 ≤ a) (ha1 : a ≤ 255) :
    spec_numberOf.l0 (k + 1) s x (s.size : Int) (j : Int) = spec_numberOf.l0 k s (x * 256 + a) (s.size : Int) ((j + 1 : Nat) : Int) := by
  rw [spec_numberOf.l0, if_pos (by omega), if_pos (by omega), if_pos (by omega), ha]
  have e1 : IntKind.u64.wrap (x * 256) = x * 256 := by rw [IntKind.wrap_u64]; omega
  have e2 : IntKind.u64.wrap a = a := by rw [IntKind.wrap_u64]; omega
  have e3 : wrap64 ((j : Int) + 1) = ((j + 1 : Nat) : Int) := by unfold wrap64; omega
  rw [e1, e2, e3, or64' 8 (x * 256) a (by omega) (by omega) (by omega) ha0 (by omega) (by omega)]
theorem numberOf4 (s : ByteArray) (h : s.size = 4) : spec_numberOf.f 5 s = some (be (bytesOf s)) := by
  have hr := bytesOf_rng s
  have hl := bytesOf_length s
  have b0 := bt_rd s 0 (by omega)
  have b1 := bt_rd s 1 (by omega)
  have b2 := bt_rd s 2 (by omega)
  have b3 := bt_rd s 3 (by omega)
  obtain ⟨a, b, c, d, r, e⟩ := four (bytesOf s) (by omega)
  rw [e] at b0 b1 b2 b3 hr hl ⊢
  have : r = [] := by
    cases r with
    | nil => rfl
    | cons _ _ => simp at hl; omega
  subst this
  have b0' : bt s ((0 : Nat) : Int) = a := b0
  have b1' : bt s ((1 : Nat) : Int) = b := b1
  have b2' : bt s ((2 : Nat) : Int) = c := b2
  have b3' : bt s ((3 : Nat) : Int) = d := b3
  have ra := hr a (by simp)
  have rb := hr b (by simp)
  have rc := hr c (by simp)
  have rd' := hr d (by simp)
  unfold spec_numberOf.f
  have z : (0 : Int) = ((0 : Nat) : Int) := rfl
  rw [be4]
  have s0 := num_step 4 s 0 (by omega) (by omega) 0 a (by omega) (by omega) b0' ra.1 ra.2
  have s1 := num_step 3 s 1 (by omega) (by omega) (0 * 256 + a) b (by omega) (by omega) b1' rb.1 rb.2
  have s2 := num_step 2 s 2 (by omega) (by omega) ((0 * 256 + a) * 256 + b) c (by omega) (by omega) b2' rc.1 rc.2
  have s3 := num_step 1 s 3 (by omega) (by omega) (((0 * 256 + a) * 256 + b) * 256 + c) d (by omega) (by omega) b3' rd'.1 rd'.2
  have s4 : spec_numberOf.l0 1 s ((((0 * 256 + a) * 256 + b) * 256 + c) * 256 + d) (s.size : Int) ((3 + 1 : Nat) : Int) = some ((((0 * 256 + a) * 256 + b) * 256 + c) * 256 + d) := by
    rw [spec_numberOf.l0, if_neg (by omega)]
  refine (s0.trans (s1.trans (s2.trans (s3.trans s4)))).trans ?_
  congr 1
  omega
theorem numberOf_any (s : ByteArray) (h : s.size = 4) (w : World) : Calls Try.prog 70 #[.string s] w fun e w' => e = .returned (.int .u64 (be (bytesOf s))) ∧ Drawn0 w w' :=
  PAll.spec_numberOf.calls 5 s _ w (numberOf4 s h)
theorem unpackS_any (s : ByteArray) (w : World) : Calls Try.prog 52 #[.string s] w fun e w' =>
    (s.size < 4 → e = .returned (.tuple #[.int .i64 0, .string ⟨#[]⟩, .bool false])) ∧ (4 ≤ s.size → e = .returned (.tuple #[.int .i64 (wrap64 (wrap32 (be ((bytesOf s).take 4)))), .string (s.extract 4 s.size), .bool true])) ∧ Drawn0 w w' := by
  by_cases h : s.size < 4
  · refine (PAll.spec_UnpackFrame.calls 5 s 0 ⟨#[]⟩ false w ?_).mono ?_
    · unfold spec_UnpackFrame.f
      rw [if_pos (by omega)]
    · rintro e w' ⟨rfl, hd⟩
      exact ⟨fun _ => rfl, fun h4 => absurd h (by omega), hd⟩
  · refine (PAll.spec_UnpackFrame.calls 5 s (wrap64 (wrap32 (be ((bytesOf s).take 4)))) (s.extract 4 s.size) true w ?_).mono ?_
    · unfold spec_UnpackFrame.f
      rw [if_neg (by omega), if_pos (by decide), if_pos (by omega), numberOf4 (s.extract 0 4) (by rw [ByteArray.size_extract]; omega), fr_bytes_extract]
      rfl
    · rintro e w' ⟨rfl, hd⟩
      exact ⟨fun h4 => absurd h4 h, fun _ => rfl, hd⟩

set_option maxHeartbeats 2000000 in
set_option maxRecDepth 100000 in
theorem specResp_any (s : ByteArray) (w : World) (hs : s.size ≤ 1000) (hn : 4 ≤ s.size → be ((bytesOf s).take 4) ≤ 65536) :
    Calls Try.prog 51 #[.string s, .int .i64 70000] w fun e w' =>
      ((s.size < 4 ∨ (s.size : Int) - 4 < be ((bytesOf s).take 4)) → e = .returned (.tuple #[.string ⟨#[]⟩, .int .i64 0, .bool false, .int .i64 1])) ∧
      (4 ≤ s.size → be ((bytesOf s).take 4) ≤ (s.size : Int) - 4 → e = .returned (.tuple #[.string ((s.extract 4 s.size).extract 0 (be ((bytesOf s).take 4)).toNat), .int .i64 ((s.size : Int) - 4 - be ((bytesOf s).take 4)), .bool true, .int .i64 1])) ∧ Drawn0 w w' := by
  have HN := Aside0.mk hn
  have HR := Aside0.mk (be_range ((bytesOf s).take 4) (fun x hx => bytesOf_rng s x (List.mem_of_mem_take hx))).1
  have hzi : (s.size : Int) ≤ 1000 := by omega
  clear hn
  go_enter Try.func51, Try.ntmps51
  by_cases h : (s.size : Int) < 4
  · go_wp2_with fail
    (try simp only [Exit.inBlock, Exit.then])
    refine bodyPost_ret (results_tmp4 rfl _ _ _) rfl ?_
    exact ⟨fun _ => rfl, fun h4 => absurd h (by omega), by repeat (first | exact Drawn0.refl _ | apply Drawn0.step)⟩
  · have h4 : 4 ≤ s.size := by omega
    have h4i : (4 : Int) ≤ (s.size : Int) := by omega
    have HC := Aside0.mk (fun (wi : World) => numberOf_any (s.extract 0 4) (by rw [ByteArray.size_extract]; omega) wi)
    rw [fr_bytes_extract] at HC
    have hez : (s.extract 4 s.size).size = s.size - 4 := by rw [ByteArray.size_extract]; omega
    have HN1 := Aside0.mk (HN.out h4)
    clear HN
    generalize hN : be ((bytesOf s).take 4) = N at *
    clear hN
    have hwN : wrap32 N = N := by have := HR.out; have := HN1.out; unfold wrap32; omega
    have hN0 : 0 ≤ N := HR.out
    have hNm : N ≤ 65536 := HN1.out
    have hNn : (N.toNat : Int) = N := by omega
    go_wp2_with fail
    refine (HC.out _).mono ?_
    rintro e w1 ⟨rfl, ⟨nd, rfl⟩⟩
    have HD1 := Aside0.mk (⟨nd, rfl⟩ : Drawn0 w (w.drewN nd))
    generalize w.drewN nd = w1 at *
    by_cases hc : (s.size : Int) - 4 < N
    · have hc2 : ((s.extract 4 s.size).size : Int) < N := by rw [hez]; omega
      go_wp2_with fail
      (try simp only [Exit.inBlock, Exit.then])
      refine bodyPost_ret (results_tmp4 rfl _ _ _) rfl ?_
      exact ⟨fun _ => rfl, fun _ h5 => absurd hc (by omega), HD1.out⟩
    · have hc2 : ¬ ((s.extract 4 s.size).size : Int) < N := by rw [hez]; omega
      have hNz : N.toNat ≤ (s.extract 4 s.size).size := by rw [hez]; omega
      go_wp2_with fail
      (try simp only [Exit.inBlock, Exit.then])
      refine bodyPost_ret (results_tmp4 rfl _ _ _) rfl ?_
      refine ⟨fun h5 => by rcases h5 with h5 | h5 <;> omega, fun _ _ => ?_, HD1.out⟩
      rw [show ((s.size - 4 : Nat) : Int) = (s.size : Int) - 4 by omega]
      rfl
theorem fr_bytes_drop (s : ByteArray) (n : Nat) : bytesOf (s.extract n s.size) = (bytesOf s).drop n := by
  obtain ⟨⟨l⟩⟩ := s
  unfold bytesOf
  rw [← List.map_drop]
  congr 1
  show ((⟨⟨l⟩⟩ : ByteArray).extract n l.length).data.toList = l.drop n
  simp [ByteArray.extract, ByteArray.copySlice, List.take_of_length_le]
theorem fr_mid (s : ByteArray) (N : Nat) : bytesOf ((s.extract 4 s.size).extract 0 N) = ((bytesOf s).drop 4).take N := by
  rw [fr_bytes_extract, fr_bytes_drop]
theorem fr_mid4 (s : ByteArray) (N : Nat) (h : 4 ≤ N) : (bytesOf ((s.extract 4 s.size).extract 0 N)).take 4 = ((bytesOf s).drop 4).take 4 := by
  rw [fr_mid, List.take_take, Nat.min_eq_left h]
theorem fr_midD (s : ByteArray) (N : Nat) : ((s.extract 4 s.size).extract 0 N).extract 4 ((s.extract 4 s.size).extract 0 N).size = strOfNums (((bytesOf s).drop 8).take (N - 4)) := by
  have h := fr_bytes_drop ((s.extract 4 s.size).extract 0 N) 4
  rw [fr_mid, List.drop_take, List.drop_drop] at h
  rw [← h, fr_str_bytesOf]

/-- What spec.Frame answers. -/
def FsR (s : ByteArray) (w : World) (e : Ending) (w' : World) : Prop :=
  ((s.size < 4 ∨ (s.size : Int) - 4 < be ((bytesOf s).take 4) ∨ be ((bytesOf s).take 4) < 4) → ∃ left, e = .returned (.tuple #[.int .i64 0, .string ⟨#[]⟩, .int .i64 left, .bool false, .int .i64 1])) ∧
  (4 ≤ s.size → be ((bytesOf s).take 4) ≤ (s.size : Int) - 4 → 4 ≤ be ((bytesOf s).take 4) → e = .returned (.tuple #[.int .i64 (wrap32 (be (((bytesOf s).drop 4).take 4))), .string (strOfNums (((bytesOf s).drop 8).take ((be ((bytesOf s).take 4)).toNat - 4))), .int .i64 ((s.size : Int) - 4 - be ((bytesOf s).take 4)), .bool true, .int .i64 1])) ∧ Drawn0 w w'
set_option maxHeartbeats 2000000 in
set_option maxRecDepth 100000 in
theorem specFrame_any (s : ByteArray) (w : World) (hs : s.size ≤ 1000) (hn : 4 ≤ s.size → be ((bytesOf s).take 4) ≤ 65536) :
    Calls Try.prog 31 #[.string s, .int .i64 70000] w fun e w' => FsR s w e w' := by
  have HR := Aside0.mk (fun (wi : World) => specResp_any s wi hs hn)
  have HP := Aside0.mk (be_range ((bytesOf s).take 4) (fun x hx => bytesOf_rng s x (List.mem_of_mem_take hx))).1
  have hww : ∀ z : Int, wrap64 (wrap32 z) = wrap32 z := fun z => by unfold wrap64 wrap32; omega
  have HM := Aside0.mk (fun h => fr_mid4 s (be ((bytesOf s).take 4)).toNat h)
  have HMD := Aside0.mk (fr_midD s (be ((bytesOf s).take 4)).toNat)
  have HMZ := Aside0.mk (show (s.size : Int) - 4 ≥ be ((bytesOf s).take 4) → ((s.extract 4 s.size).extract 0 (be ((bytesOf s).take 4)).toNat).size = (be ((bytesOf s).take 4)).toNat by
    intro h; rw [ByteArray.size_extract, ByteArray.size_extract]; omega)
  clear hn
  unfold FsR
  generalize hN : be ((bytesOf s).take 4) = N at *
  clear hN
  generalize hS : (s.extract 4 s.size).extract 0 N.toNat = S at *
  clear hS
  generalize hD : strOfNums (((bytesOf s).drop 8).take (N.toNat - 4)) = D at *
  clear hD
  generalize hK : ((bytesOf s).drop 4).take 4 = K4 at *
  clear hK
  go_enter Try.func31, Try.ntmps31
  go_wp2_with fail
  refine (HR.out _).mono ?_
  rintro e w1 ⟨hbad, hok, ⟨nd, rfl⟩⟩
  have HD1 := Aside0.mk (⟨nd, rfl⟩ : Drawn0 w (w.drewN nd))
  generalize w.drewN nd = w1 at *
  clear HR
  by_cases hc : s.size < 4 ∨ (s.size : Int) - 4 < N
  · obtain rfl := hbad hc
    have HC := Aside0.mk hc
    clear hbad hok hc
    go_wp2_with fail
    (try simp only [Exit.inBlock, Exit.then])
    refine bodyPost_ret (results_tmp5 rfl _ _ _) rfl ?_
    refine ⟨fun _ => ⟨_, rfl⟩, fun h1 h2 h3 => ?_, HD1.out⟩
    rcases HC.out with h | h <;> omega
  · obtain rfl := hok (by omega) (by omega)
    have HC := Aside0.mk hc
    have HSZ := Aside0.mk (HMZ.out (by omega))
    clear hbad hok hc
    have HU := Aside0.mk (fun (wi : World) => unpackS_any S wi)
    go_wp2_with fail
    refine (HU.out _).mono ?_
    rintro e w2 ⟨hb4, hg4, ⟨nd, rfl⟩⟩
    have HD2 := Aside0.mk (show Drawn0 w (w1.drewN nd) by obtain ⟨n1, rfl⟩ := HD1.out; exact ⟨n1 + nd, World.drewN_drewN _ _ _⟩)
    generalize w1.drewN nd = w2 at *
    by_cases h4 : S.size < 4
    · obtain rfl := hb4 h4
      have H4 := Aside0.mk h4
      clear hb4 hg4 h4
      go_wp2_with fail
      (try simp only [Exit.inBlock, Exit.then])
      refine bodyPost_ret (results_tmp5 rfl _ _ _) rfl ?_
      refine ⟨fun _ => ⟨_, rfl⟩, fun h1 h2 h3 => ?_, HD2.out⟩
      have := HSZ.out; have := H4.out; omega
    · obtain rfl := hg4 (by omega)
      have H4 := Aside0.mk h4
      have HM4 := Aside0.mk (HM.out (by have := HSZ.out; omega))
      clear hb4 hg4 h4
      simp only [hww, HM4.out]
      rw [HMD.out]
      go_wp2_with fail
      (try simp only [Exit.inBlock, Exit.then])
      refine bodyPost_ret (results_tmp5 rfl _ _ _) rfl ?_
      refine ⟨fun h => ?_, fun h1 h2 h3 => rfl, HD2.out⟩
      have := HSZ.out; have := H4.out; have := HC.out; omega

set_option maxHeartbeats 2000000 in
set_option maxRecDepth 100000 in
theorem FnFrameRead_walk (s : ByteArray) (w : World) (hs0 : s.size ≤ 140737488351232) :
    Calls Try.prog 10 #[.string s] w fun e w' => e = .returned (.bool true) ∧ Below w.heap.size w w' := by
  go_enter Try.func10, Try.ntmps10
  by_cases h1 : (s.size : Int) > 2147483647
  · go_wp2_with fail
    go_ret
    exact ⟨rfl, Below.refl _ _⟩
  by_cases h2 : (s.size : Int) > 1000
  · go_wp2_with fail
    go_ret
    exact ⟨rfl, Below.refl _ _⟩
  have hzi : (s.size : Int) ≤ 1000 := by omega
  have hz : s.size ≤ 1000 := by omega
  clear h1 h2 hs0
  have HF := Aside0.mk (fun (h : 4 ≤ s.size → be ((bytesOf s).take 4) ≤ 65536) (wi : World) => specFrame_any s wi hz h)
  have HG := Aside0.mk (fun (h : 4 ≤ s.size → be ((bytesOf s).take 4) ≤ 65536) (wi : World) => frame_any s wi (by omega) (fun h4 => by rw [bytesOf_length] at h4; have := h h4; omega))
  have HL := Aside0.mk (bytesOf_length s)
  have HB := Aside0.mk (Below.refl w.heap.size w)
  have H4 : Aside0 (∀ (h0 : 0 < s.size) (h1 : 1 < s.size), (s[0]'h0).toNat = 0 → (s[1]'h1).toNat = 0 → 4 ≤ s.size → be ((bytesOf s).take 4) ≤ 65536) := ⟨by
    intro p0 p1 h0 h1 h4
    have b0 : bt s 0 = rd (bytesOf s) 0 := bt_rd s 0 (by omega)
    have b1 : bt s 1 = rd (bytesOf s) 1 := bt_rd s 1 (by omega)
    have c0 := bt_at s 0 p0
    have c1 := bt_at s 1 p1
    have hr := bytesOf_rng s
    have hl := bytesOf_length s
    obtain ⟨a, b, c, d, r, e⟩ := four (bytesOf s) (by omega)
    rw [e] at b0 b1 hr ⊢
    have b0' : bt s 0 = a := b0
    have b1' : bt s 1 = b := b1
    have c0' : ((s[0]'p0).toNat : Int) = bt s 0 := c0
    have c1' : ((s[1]'p1).toNat : Int) = bt s 1 := c1
    have rc := hr c (by simp)
    have rd' := hr d (by simp)
    show be [a, b, c, d] ≤ 65536
    rw [be4]
    omega⟩
  unfold FsR FrR at *
  rw [HL.out] at HG
  have key : 0 ≤ 0 ∧ (4 ≤ s.size → be ((bytesOf s).take 4) ≤ 65536) ∨ ∃ (p0 : 0 < s.size) (p1 : 1 < s.size), 4 ≤ s.size ∧ ((s[0]'p0).toNat ≠ 0 ∨ (s[1]'p1).toNat ≠ 0) := by
    by_cases h4 : 4 ≤ s.size
    · have p0 : 0 < s.size := by omega
      have p1 : 1 < s.size := by omega
      by_cases h0 : (s[0]'p0).toNat = 0
      · by_cases h1 : (s[1]'p1).toNat = 0
        · exact .inl ⟨Nat.le_refl _, H4.out p0 p1 h0 h1⟩
        · exact .inr ⟨p0, p1, h4, .inr h1⟩
      · exact .inr ⟨p0, p1, h4, .inl h0⟩
    · exact .inl ⟨Nat.le_refl _, fun h => absurd h h4⟩
  clear H4
  rcases key with ⟨-, hn⟩ | ⟨p0, p1, h4, h⟩
  rotate_left
  · clear HF HG
    have q0 : (0 : Int) < s.size := by omega
    have q1 : (1 : Int) < s.size := by omega
    have h3 : (3 : Int) < s.size := by omega
    have HK := Aside0.mk h
    clear h h4
    go_wp2_with fail
    all_goals (first | (go_ret; exact ⟨rfl, HB.out⟩) | (exfalso; have h := HK.out; simp at *; omega))
  · have HN := Aside0.mk hn
    clear hn
    generalize strOfNums (((bytesOf s).drop 8).take ((be ((bytesOf s).take 4)).toNat - 4)) = D at *
    generalize wrap32 (be (((bytesOf s).drop 4).take 4)) = KK at *
    generalize be ((bytesOf s).take 4) = N at *
    have HC : Aside0 ((s.size < 4 ∨ (s.size : Int) - 4 < N ∨ N < 4) ∨ (4 ≤ s.size ∧ N ≤ (s.size : Int) - 4 ∧ 4 ≤ N)) := ⟨by omega⟩
    by_cases h3 : (3 : Int) < s.size
    · have q0 : (0 : Int) < s.size := by omega
      have q1 : (1 : Int) < s.size := by omega
      go_wp2_with fail
      all_goals (first | (go_ret; exact ⟨rfl, HB.out⟩) | skip)
      all_goals
        refine (HF.out HN.out _).mono ?_
        rintro e w1 ⟨hb, hg, hd⟩
        have HB1 := Aside0.mk (pw_below_drawn0 (Below.refl w.heap.size w) hd)
        clear HF hd HB
        rcases HC.out with hc | hc
      · obtain ⟨lf, rfl⟩ := hb hc
        have hx := Aside0.mk hc
        clear hb hg hc
        go_wp2_with fail
        refine (HG.out HN.out _).mono ?_
        rintro e w2 ⟨hb2, hb, -⟩
        obtain ⟨k, lf2, rfl⟩ := hb hx.out
        have HB2 := Aside0.mk (HB1.out.trans (hb2.mono HB1.out.size))
        clear HG hb hb2
        go_wp2_with fail
        refine (alive_any _).mono ?_
        rintro e w6 ⟨rfl, hb⟩
        have HB6 := Aside0.mk (HB2.out.trans (hb.mono HB2.out.size))
        clear hb HB2
        go_wp2_with fail
        go_ret
        exact ⟨rfl, HB6.out⟩
      · obtain rfl := hg hc.1 hc.2.1 hc.2.2
        have hx := Aside0.mk hc
        clear hb hg hc
        go_wp2_with fail
        refine (HG.out HN.out _).mono ?_
        rintro e w2 ⟨hb2, -, hg⟩
        obtain rfl := hg hx.out.1 hx.out.2.1 hx.out.2.2
        have HB2 := Aside0.mk (HB1.out.trans (hb2.mono HB1.out.size))
        clear HG hg hb2
        go_wp2_with fail
        refine (alive_any _).mono ?_
        rintro e w6 ⟨rfl, hb⟩
        have HB6 := Aside0.mk (HB2.out.trans (hb.mono HB2.out.size))
        clear hb HB2
        go_wp2_with fail
        go_ret
        exact ⟨rfl, HB6.out⟩
    · have hx : Aside0 (s.size < 4 ∨ (s.size : Int) - 4 < N ∨ N < 4) := ⟨by omega⟩
      go_wp2_with fail
      refine (HF.out HN.out _).mono ?_
      rintro e w1 ⟨hb, hg, hd⟩
      have HB1 := Aside0.mk (pw_below_drawn0 (Below.refl w.heap.size w) hd)
      clear HF hd HB
      obtain ⟨lf, rfl⟩ := hb hx.out
      clear hb hg
      go_wp2_with fail
      refine (HG.out HN.out _).mono ?_
      rintro e w2 ⟨hb2, hb, -⟩
      obtain ⟨k, lf2, rfl⟩ := hb hx.out
      have HB2 := Aside0.mk (HB1.out.trans (hb2.mono HB1.out.size))
      clear HG hb hb2
      go_wp2_with fail
      refine (alive_any _).mono ?_
      rintro e w6 ⟨rfl, hb⟩
      have HB6 := Aside0.mk (HB2.out.trans (hb.mono HB2.out.size))
      clear hb HB2
      go_wp2_with fail
      go_ret
      exact ⟨rfl, HB6.out⟩
theorem FnFrameRead_row (s : ByteArray) (w : World) (hs : s.size ≤ 140737488351232) :
    Calls Try.prog 10 #[.string s] w fun e w' => e = .returned (.bool true) ∧ Below w.heap.size w w' := FnFrameRead_walk s w hs
end Go.Proofs.Ytnbhledkdkchlaa
