/- impl.ErrorKind: the walk. (seat r3.Z; printed by gen_er6.py) -/
import Derived.Test.YtkogipaaioibaaaGreatEr6g
namespace Go.Proofs.YtkogipaaioibaaaGreat
set_option linter.unusedVariables false
set_option linter.unusedSimpArgs false
open Go.RowKit Go.Proofs.YtkogipaaioibaaaGreatW.PrintWords

set_option maxHeartbeats 8000000 in
set_option maxRecDepth 100000 in
theorem ek_ff (line m a : ByteArray) (c : Nat) (f : Nat → Bool) (w : World) (hz : line.size ≤ 200) (h1 : 1 ≤ line.size) (hm : line.extract 1 line.size = m) (hc : c ≤ 13) (hc2 : c ≠ 2) (hc3 : c ≠ 3) (h2 : f 2 = false) (h3 : f 3 = false)
    (HP : Hid (∀ w, Calls Tryz.prog 33 #[.string m] w fun e w' => ParseR w m a c e w')) (HB : Hid (∀ x, x < 13 → Bx m c x (f x))) :
    Calls Tryz.prog 5 #[.string line] w fun e w' => EkR w (kindsL f) ⟨#[]⟩ m e w' := by
  have hmf : ∀ (fn : Fn) (first cap : Array Value) (w : World), (Instr.makeFunc fn first cap).run Tryz.prog w = .ok (.func fn first cap) w := fun _ _ _ _ => rfl
  have hbs := fun w => print_bytes (P := Tryz.prog) 9 35 5 Tryz.underlying9 Tryz.underlying35 Tryz.underlying5 line w
  have hmz : m.size ≤ 1000 := by rw [← hm, ByteArray.size_extract]; omega
  have HK := Lib.hid (show kindsL f = kindsL f from rfl)
  unfold kindsL at HK
  have H2 := Lib.hid h2
  have H3 := Lib.hid h3
  have HL := Lib.hid (And.intro hz (And.intro h1 hm))
  clear h2 h3 hz h1 hm
  go_enter_defers Tryz.func5, Tryz.ntmps5
  go_wp2_with fail
  have hbl : Below w.heap.size w (Lib.bytesWorld (((w.alloc (.cells #[.slice none 0 0] 24)).alloc (.cells #[.string ⟨#[]⟩] 9)).alloc (.cells #[.string ⟨#[]⟩] 9)) 5 line) := bytes_below (below_alloc (below_alloc (below_alloc (Below.refl _ _) _) _) _) (by simp; omega) 5 line
  have hcap := grownCap_ge (((w.alloc (.cells #[.slice none 0 0] 24)).alloc (.cells #[.string ⟨#[]⟩] 9)).alloc (.cells #[.string ⟨#[]⟩] 9)) line.size 0 5
  have hrd := bytes_reads (((w.alloc (.cells #[.slice none 0 0] 24)).alloc (.cells #[.string ⟨#[]⟩] 9)).alloc (.cells #[.string ⟨#[]⟩] 9)) 5 line (by have := HL.out.1; omega)
  simp only [World.size_alloc] at hrd
  refine (reply_any (w.heap.size + 1 + 1 + 1) _ line m a c _ hrd HL.out.2.1 (by have := HL.out.1; omega) ?hcap HL.out.2.2 HP).mono ?_
  case hcap => exact hcap
  rintro e w1 ⟨v, rfl, hev, hb1⟩
  have hES : ES w w1 0 [] ⟨#[]⟩ m a c v := by
    have h0 : ∀ g, g < w.heap.size + 1 + 1 + 1 → w1.heap[g]? = ((((w.alloc (.cells #[.slice none 0 0] 24)).alloc (.cells #[.string ⟨#[]⟩] 9)).alloc (.cells #[.string ⟨#[]⟩] 9))).heap[g]? := fun g hg => (hb1.block g (by rw [Lib.bytesWorld_size]; simp; omega)).trans (Lib.bytesWorld_at_old _ 5 line g (by simp; omega))
    have hs1 := hb1.size
    rw [Lib.bytesWorld_size] at hs1
    simp only [World.size_alloc] at hs1
    refine ⟨⟨.slice none 0 0, ?_, Kd.R_nil _ _ _ _ _⟩, ?_, ?_, hev, hbl.trans (hb1.mono hbl.size), by omega, Nat.le_refl _⟩
    · exact (h0 _ (by omega)).trans ((Below.heap_alloc _ _ _ (by simp; omega)).trans ((Below.heap_alloc _ _ _ (by simp)).trans (heap_alloc_new w _)))
    · refine (h0 _ (by omega)).trans ((Below.heap_alloc _ _ _ (by simp)).trans ?_)
      have := heap_alloc_new (w.alloc (.cells #[.slice none 0 0] 24)) (.cells #[.string ⟨#[]⟩] 9)
      rwa [World.size_alloc] at this
    · refine (h0 _ (by omega)).trans ?_
      have := heap_alloc_new ((w.alloc (.cells #[.slice none 0 0] 24)).alloc (.cells #[.string ⟨#[]⟩] 9)) (.cells #[.string ⟨#[]⟩] 9)
      rwa [World.size_alloc, World.size_alloc] at this
  have S0 := Lib.hid hES
  clear hev hb1 hES hbl hrd hbs HP
  go_wp2_with fail
  refine (isLoading_any m a _ _ (f 0) _ hc S0.out.ev hmz (HB.out 0 (by decide))).mono ?_
  rintro e wi ⟨rfl, hd⟩
  have R0 := Lib.hid (S0.out.draw hd)
  clear hd S0
  go_wp2_with fail
  refine (add_any _ _ _ _ (f 0) _ R0.out.ks (by have := R0.out.ln; omega) R0.out.sz (by omega)).mono ?_
  rintro e wj ⟨rfl, hk, hf⟩
  have S1 := Lib.hid (R0.out.add hk hf (len_if (f 0) _ R0.out.ln))
  clear hk hf R0
  go_wp2_with fail
  refine (isReadOnly_any m a _ _ (f 1) _ hc S1.out.ev hmz (HB.out 1 (by decide))).mono ?_
  rintro e wi ⟨rfl, hd⟩
  have R1 := Lib.hid (S1.out.draw hd)
  clear hd S1
  go_wp2_with fail
  refine (add_any _ _ _ _ (f 1) _ R1.out.ks (by have := R1.out.ln; omega) R1.out.sz (by omega)).mono ?_
  rintro e wj ⟨rfl, hk, hf⟩
  have S2 := Lib.hid (R1.out.add hk hf (len_if (f 1) _ R1.out.ln))
  clear hk hf R1
  go_wp2_with fail
  refine (isMoved_any m a _ _ false _ hc S2.out.ev hmz (by have h := HB.out 2 (by decide); rw [H2.out] at h; exact h)).mono ?_
  rintro e wi ⟨p, rfl, hp, hd⟩
  have S3 := Lib.hid (S2.out.draw hd)
  clear hp hd S2
  go_wp2_with fail
  refine (isAsk_any m a _ _ false _ hc S3.out.ev hmz (by have h := HB.out 3 (by decide); rw [H3.out] at h; exact h)).mono ?_
  rintro e wi ⟨p, rfl, hp, hd⟩
  have S4 := Lib.hid (S3.out.draw hd)
  clear hp hd S3
  go_wp2_with fail
  refine (isClusterDown_any m a _ _ (f 4) _ hc S4.out.ev hmz (HB.out 4 (by decide))).mono ?_
  rintro e wi ⟨rfl, hd⟩
  have R4 := Lib.hid (S4.out.draw hd)
  clear hd S4
  go_wp2_with fail
  refine (add_any _ _ _ _ (f 4) _ R4.out.ks (by have := R4.out.ln; omega) R4.out.sz (by omega)).mono ?_
  rintro e wj ⟨rfl, hk, hf⟩
  have S5 := Lib.hid (R4.out.add hk hf (len_if (f 4) _ R4.out.ln))
  clear hk hf R4
  go_wp2_with fail
  refine (isTryAgain_any m a _ _ (f 5) _ hc S5.out.ev hmz (HB.out 5 (by decide))).mono ?_
  rintro e wi ⟨rfl, hd⟩
  have R5 := Lib.hid (S5.out.draw hd)
  clear hd S5
  go_wp2_with fail
  refine (add_any _ _ _ _ (f 5) _ R5.out.ks (by have := R5.out.ln; omega) R5.out.sz (by omega)).mono ?_
  rintro e wj ⟨rfl, hk, hf⟩
  have S6 := Lib.hid (R5.out.add hk hf (len_if (f 5) _ R5.out.ln))
  clear hk hf R5
  go_wp2_with fail
  refine (isMasterDown_any m a _ _ (f 6) _ hc S6.out.ev hmz (HB.out 6 (by decide))).mono ?_
  rintro e wi ⟨rfl, hd⟩
  have R6 := Lib.hid (S6.out.draw hd)
  clear hd S6
  go_wp2_with fail
  refine (add_any _ _ _ _ (f 6) _ R6.out.ks (by have := R6.out.ln; omega) R6.out.sz (by omega)).mono ?_
  rintro e wj ⟨rfl, hk, hf⟩
  have S7 := Lib.hid (R6.out.add hk hf (len_if (f 6) _ R6.out.ln))
  clear hk hf R6
  go_wp2_with fail
  refine (isMaxClients_any m a _ _ (f 8) _ hc S7.out.ev hmz (HB.out 8 (by decide))).mono ?_
  rintro e wi ⟨rfl, hd⟩
  have R7 := Lib.hid (S7.out.draw hd)
  clear hd S7
  go_wp2_with fail
  refine (add_any _ _ _ _ (f 8) _ R7.out.ks (by have := R7.out.ln; omega) R7.out.sz (by omega)).mono ?_
  rintro e wj ⟨rfl, hk, hf⟩
  have S8 := Lib.hid (R7.out.add hk hf (len_if (f 8) _ R7.out.ln))
  clear hk hf R7
  go_wp2_with fail
  refine (isAuth_any m a _ _ (f 9) _ hc S8.out.ev hmz (HB.out 9 (by decide))).mono ?_
  rintro e wi ⟨rfl, hd⟩
  have R8 := Lib.hid (S8.out.draw hd)
  clear hd S8
  go_wp2_with fail
  refine (add_any _ _ _ _ (f 9) _ R8.out.ks (by have := R8.out.ln; omega) R8.out.sz (by omega)).mono ?_
  rintro e wj ⟨rfl, hk, hf⟩
  have S9 := Lib.hid (R8.out.add hk hf (len_if (f 9) _ R8.out.ln))
  clear hk hf R8
  go_wp2_with fail
  refine (isPermission_any m a _ _ (f 10) _ hc S9.out.ev hmz (HB.out 10 (by decide))).mono ?_
  rintro e wi ⟨rfl, hd⟩
  have R9 := Lib.hid (S9.out.draw hd)
  clear hd S9
  go_wp2_with fail
  refine (add_any _ _ _ _ (f 10) _ R9.out.ks (by have := R9.out.ln; omega) R9.out.sz (by omega)).mono ?_
  rintro e wj ⟨rfl, hk, hf⟩
  have S10 := Lib.hid (R9.out.add hk hf (len_if (f 10) _ R9.out.ln))
  clear hk hf R9
  go_wp2_with fail
  refine (isExecAbort_any m a _ _ (f 11) _ hc S10.out.ev hmz (HB.out 11 (by decide))).mono ?_
  rintro e wi ⟨rfl, hd⟩
  have R10 := Lib.hid (S10.out.draw hd)
  clear hd S10
  go_wp2_with fail
  refine (add_any _ _ _ _ (f 11) _ R10.out.ks (by have := R10.out.ln; omega) R10.out.sz (by omega)).mono ?_
  rintro e wj ⟨rfl, hk, hf⟩
  have S11 := Lib.hid (R10.out.add hk hf (len_if (f 11) _ R10.out.ln))
  clear hk hf R10
  go_wp2_with fail
  refine (isOOM_any m a _ _ (f 12) _ hc S11.out.ev hmz (HB.out 12 (by decide))).mono ?_
  rintro e wi ⟨rfl, hd⟩
  have R11 := Lib.hid (S11.out.draw hd)
  clear hd S11
  go_wp2_with fail
  refine (add_any _ _ _ _ (f 12) _ R11.out.ks (by have := R11.out.ln; omega) R11.out.sz (by omega)).mono ?_
  rintro e wj ⟨rfl, hk, hf⟩
  have S12 := Lib.hid (R11.out.add hk hf (len_if (f 12) _ R11.out.ln))
  clear hk hf R11
  go_wp2_with fail
  refine (isNoReplicas_any m a _ _ (f 7) _ hc S12.out.ev hmz (HB.out 7 (by decide))).mono ?_
  rintro e wi ⟨rfl, hd⟩
  have R12 := Lib.hid (S12.out.draw hd)
  clear hd S12
  go_wp2_with fail
  refine (add_any _ _ _ _ (f 7) _ R12.out.ks (by have := R12.out.ln; omega) R12.out.sz (by omega)).mono ?_
  rintro e wj ⟨rfl, hk, hf⟩
  have S13 := Lib.hid (R12.out.add hk hf (len_if (f 7) _ R12.out.ln))
  clear hk hf R12
  go_wp2_with fail
  obtain ⟨vk, hk, hr⟩ := S13.out.ks
  obtain ⟨A1, cc1, nn, rfl⟩ : ∃ A1 cc1 nn, vk = .slice A1 nn cc1 := by obtain ⟨A, c, h⟩ := Kd.R_slice hr; exact ⟨A, c, _, h⟩
  have c0 : wj.cell? ⟨w.heap.size, 0, none⟩ = some (.slice A1 nn cc1) := blk_cell hk 0
  have c1 : wj.cell? ⟨w.heap.size + 1, 0, none⟩ = some (.string ⟨#[]⟩) := blk_cell S13.out.ad 0
  have c2 : wj.cell? ⟨w.heap.size + 1 + 1, 0, none⟩ = some (.string ⟨#[]⟩) := blk_cell S13.out.tx 0
  have f0 : wj.frozen? ⟨w.heap.size, 0, none⟩ = false := blk_frozen hk 0
  have f1 : wj.frozen? ⟨w.heap.size + 1, 0, none⟩ = false := blk_frozen S13.out.ad 0
  have f2 : wj.frozen? ⟨w.heap.size + 1 + 1, 0, none⟩ = false := blk_frozen S13.out.tx 0
  have l0 := blk_lt hk
  have l1 := blk_lt S13.out.ad
  have l2 := blk_lt S13.out.tx
  have HR := Lib.hid (And.intro hk hr)
  have HX : Hid (kindsL f = ((((((((((([] ++ if f 0 = true then [⟨#[76, 111, 97, 100, 105, 110, 103]⟩] else []) ++ if f 1 = true then [⟨#[82, 101, 97, 100, 79, 110, 108, 121]⟩] else []) ++ if f 4 = true then [⟨#[67, 108, 117, 115, 116, 101, 114, 68, 111, 119, 110]⟩] else []) ++ if f 5 = true then [⟨#[84, 114, 121, 65, 103, 97, 105, 110]⟩] else []) ++ if f 6 = true then [⟨#[77, 97, 115, 116, 101, 114, 68, 111, 119, 110]⟩] else []) ++ if f 8 = true then [⟨#[77, 97, 120, 67, 108, 105, 101, 110, 116, 115]⟩] else []) ++ if f 9 = true then [⟨#[65, 117, 116, 104]⟩] else []) ++ if f 10 = true then [⟨#[80, 101, 114, 109, 105, 115, 115, 105, 111, 110]⟩] else []) ++ if f 11 = true then [⟨#[69, 120, 101, 99, 65, 98, 111, 114, 116]⟩] else []) ++ if f 12 = true then [⟨#[79, 79, 77]⟩] else []) ++ if f 7 = true then [⟨#[78, 111, 82, 101, 112, 108, 105, 99, 97, 115]⟩] else [])) := Lib.hid (by unfold kindsL; simp [H2.out, H3.out])
  have HEND := Lib.hid (ek_end S13.out hk hr _ rfl)
  clear hk hr HR
  have hev := S13.out.ev
  unfold EVal at hev
  split at hev
  · obtain ⟨g, rfl, hb⟩ := hev
    have HE := Lib.hid (fun w' (h : Below wj.heap.size wj w') => err_Loading m _ w' (blk_below hb h))
    have hm := meth_Loading
    have ha := ahead_Loading
    clear hb
    refine wp_only ?_
    go_region_with (go_at_call 104; refine (HE.out _ (by first | exact Below.refl _ _ | exact below_drew (Below.refl _ _) | exact pw_below_drewN (Below.refl _ _) _)).mono ?_; rintro e w3 ⟨rfl, rfl⟩)
    all_goals
      simp only [NormalOnly]
      go_wp2
      refine leaves_cons (f := 13) (args := #[.pointer (some ⟨w.heap.size, 0, none⟩), .pointer (some ⟨w.heap.size + 1, 0, none⟩), .pointer (some ⟨w.heap.size + 1 + 1, 0, none⟩)]) (by simp) (by simp [go_sem]) ?_
      refine (idleE _ _ _ _).mono ?_
      rintro e u' w'' ⟨rfl, rfl, rfl⟩
      refine ⟨_, resE _ _ w.heap.size (w.heap.size + 1) (w.heap.size + 1 + 1) (.slice A1 nn cc1) ⟨#[]⟩ m rfl rfl rfl HEND.out.1 HEND.out.2.1 HEND.out.2.2.1, ?_⟩
      rw [HX.out]
      exact HEND.out.2.2.2
  · obtain ⟨g, rfl, hb⟩ := hev
    have HE := Lib.hid (fun w' (h : Below wj.heap.size wj w') => err_ReadOnly m _ w' (blk_below hb h))
    have hm := meth_ReadOnly
    have ha := ahead_ReadOnly
    clear hb
    refine wp_only ?_
    go_region_with (go_at_call 107; refine (HE.out _ (by first | exact Below.refl _ _ | exact below_drew (Below.refl _ _) | exact pw_below_drewN (Below.refl _ _) _)).mono ?_; rintro e w3 ⟨rfl, rfl⟩)
    all_goals
      simp only [NormalOnly]
      go_wp2
      refine leaves_cons (f := 13) (args := #[.pointer (some ⟨w.heap.size, 0, none⟩), .pointer (some ⟨w.heap.size + 1, 0, none⟩), .pointer (some ⟨w.heap.size + 1 + 1, 0, none⟩)]) (by simp) (by simp [go_sem]) ?_
      refine (idleE _ _ _ _).mono ?_
      rintro e u' w'' ⟨rfl, rfl, rfl⟩
      refine ⟨_, resE _ _ w.heap.size (w.heap.size + 1) (w.heap.size + 1 + 1) (.slice A1 nn cc1) ⟨#[]⟩ m rfl rfl rfl HEND.out.1 HEND.out.2.1 HEND.out.2.2.1, ?_⟩
      rw [HX.out]
      exact HEND.out.2.2.2
  · exact absurd rfl hc2
  · exact absurd rfl hc3
  · obtain ⟨g, rfl, hb⟩ := hev
    have HE := Lib.hid (fun w' (h : Below wj.heap.size wj w') => err_ClusterDown m _ w' (blk_below hb h))
    have hm := meth_ClusterDown
    have ha := ahead_ClusterDown
    clear hb
    refine wp_only ?_
    go_region_with (go_at_call 109; refine (HE.out _ (by first | exact Below.refl _ _ | exact below_drew (Below.refl _ _) | exact pw_below_drewN (Below.refl _ _) _)).mono ?_; rintro e w3 ⟨rfl, rfl⟩)
    all_goals
      simp only [NormalOnly]
      go_wp2
      refine leaves_cons (f := 13) (args := #[.pointer (some ⟨w.heap.size, 0, none⟩), .pointer (some ⟨w.heap.size + 1, 0, none⟩), .pointer (some ⟨w.heap.size + 1 + 1, 0, none⟩)]) (by simp) (by simp [go_sem]) ?_
      refine (idleE _ _ _ _).mono ?_
      rintro e u' w'' ⟨rfl, rfl, rfl⟩
      refine ⟨_, resE _ _ w.heap.size (w.heap.size + 1) (w.heap.size + 1 + 1) (.slice A1 nn cc1) ⟨#[]⟩ m rfl rfl rfl HEND.out.1 HEND.out.2.1 HEND.out.2.2.1, ?_⟩
      rw [HX.out]
      exact HEND.out.2.2.2
  · obtain ⟨g, rfl, hb⟩ := hev
    have HE := Lib.hid (fun w' (h : Below wj.heap.size wj w') => err_TryAgain m _ w' (blk_below hb h))
    have hm := meth_TryAgain
    have ha := ahead_TryAgain
    clear hb
    refine wp_only ?_
    go_region_with (go_at_call 111; refine (HE.out _ (by first | exact Below.refl _ _ | exact below_drew (Below.refl _ _) | exact pw_below_drewN (Below.refl _ _) _)).mono ?_; rintro e w3 ⟨rfl, rfl⟩)
    all_goals
      simp only [NormalOnly]
      go_wp2
      refine leaves_cons (f := 13) (args := #[.pointer (some ⟨w.heap.size, 0, none⟩), .pointer (some ⟨w.heap.size + 1, 0, none⟩), .pointer (some ⟨w.heap.size + 1 + 1, 0, none⟩)]) (by simp) (by simp [go_sem]) ?_
      refine (idleE _ _ _ _).mono ?_
      rintro e u' w'' ⟨rfl, rfl, rfl⟩
      refine ⟨_, resE _ _ w.heap.size (w.heap.size + 1) (w.heap.size + 1 + 1) (.slice A1 nn cc1) ⟨#[]⟩ m rfl rfl rfl HEND.out.1 HEND.out.2.1 HEND.out.2.2.1, ?_⟩
      rw [HX.out]
      exact HEND.out.2.2.2
  · obtain ⟨g, rfl, hb⟩ := hev
    have HE := Lib.hid (fun w' (h : Below wj.heap.size wj w') => err_MasterDown m _ w' (blk_below hb h))
    have hm := meth_MasterDown
    have ha := ahead_MasterDown
    clear hb
    refine wp_only ?_
    go_region_with (go_at_call 113; refine (HE.out _ (by first | exact Below.refl _ _ | exact below_drew (Below.refl _ _) | exact pw_below_drewN (Below.refl _ _) _)).mono ?_; rintro e w3 ⟨rfl, rfl⟩)
    all_goals
      simp only [NormalOnly]
      go_wp2
      refine leaves_cons (f := 13) (args := #[.pointer (some ⟨w.heap.size, 0, none⟩), .pointer (some ⟨w.heap.size + 1, 0, none⟩), .pointer (some ⟨w.heap.size + 1 + 1, 0, none⟩)]) (by simp) (by simp [go_sem]) ?_
      refine (idleE _ _ _ _).mono ?_
      rintro e u' w'' ⟨rfl, rfl, rfl⟩
      refine ⟨_, resE _ _ w.heap.size (w.heap.size + 1) (w.heap.size + 1 + 1) (.slice A1 nn cc1) ⟨#[]⟩ m rfl rfl rfl HEND.out.1 HEND.out.2.1 HEND.out.2.2.1, ?_⟩
      rw [HX.out]
      exact HEND.out.2.2.2
  · obtain ⟨g, rfl, hb⟩ := hev
    have HE := Lib.hid (fun w' (h : Below wj.heap.size wj w') => err_NoReplicas m _ w' (blk_below hb h))
    have hm := meth_NoReplicas
    have ha := ahead_NoReplicas
    clear hb
    refine wp_only ?_
    go_region_with (go_at_call 125; refine (HE.out _ (by first | exact Below.refl _ _ | exact below_drew (Below.refl _ _) | exact pw_below_drewN (Below.refl _ _) _)).mono ?_; rintro e w3 ⟨rfl, rfl⟩)
    all_goals
      simp only [NormalOnly]
      go_wp2
      refine leaves_cons (f := 13) (args := #[.pointer (some ⟨w.heap.size, 0, none⟩), .pointer (some ⟨w.heap.size + 1, 0, none⟩), .pointer (some ⟨w.heap.size + 1 + 1, 0, none⟩)]) (by simp) (by simp [go_sem]) ?_
      refine (idleE _ _ _ _).mono ?_
      rintro e u' w'' ⟨rfl, rfl, rfl⟩
      refine ⟨_, resE _ _ w.heap.size (w.heap.size + 1) (w.heap.size + 1 + 1) (.slice A1 nn cc1) ⟨#[]⟩ m rfl rfl rfl HEND.out.1 HEND.out.2.1 HEND.out.2.2.1, ?_⟩
      rw [HX.out]
      exact HEND.out.2.2.2
  · obtain ⟨g, rfl, hb⟩ := hev
    have HE := Lib.hid (fun w' (h : Below wj.heap.size wj w') => err_MaxClients m _ w' (blk_below hb h))
    have hm := meth_MaxClients
    have ha := ahead_MaxClients
    clear hb
    refine wp_only ?_
    go_region_with (go_at_call 115; refine (HE.out _ (by first | exact Below.refl _ _ | exact below_drew (Below.refl _ _) | exact pw_below_drewN (Below.refl _ _) _)).mono ?_; rintro e w3 ⟨rfl, rfl⟩)
    all_goals
      simp only [NormalOnly]
      go_wp2
      refine leaves_cons (f := 13) (args := #[.pointer (some ⟨w.heap.size, 0, none⟩), .pointer (some ⟨w.heap.size + 1, 0, none⟩), .pointer (some ⟨w.heap.size + 1 + 1, 0, none⟩)]) (by simp) (by simp [go_sem]) ?_
      refine (idleE _ _ _ _).mono ?_
      rintro e u' w'' ⟨rfl, rfl, rfl⟩
      refine ⟨_, resE _ _ w.heap.size (w.heap.size + 1) (w.heap.size + 1 + 1) (.slice A1 nn cc1) ⟨#[]⟩ m rfl rfl rfl HEND.out.1 HEND.out.2.1 HEND.out.2.2.1, ?_⟩
      rw [HX.out]
      exact HEND.out.2.2.2
  · obtain ⟨g, rfl, hb⟩ := hev
    have HE := Lib.hid (fun w' (h : Below wj.heap.size wj w') => err_Auth m _ w' (blk_below hb h))
    have hm := meth_Auth
    have ha := ahead_Auth
    clear hb
    refine wp_only ?_
    go_region_with (go_at_call 117; refine (HE.out _ (by first | exact Below.refl _ _ | exact below_drew (Below.refl _ _) | exact pw_below_drewN (Below.refl _ _) _)).mono ?_; rintro e w3 ⟨rfl, rfl⟩)
    all_goals
      simp only [NormalOnly]
      go_wp2
      refine leaves_cons (f := 13) (args := #[.pointer (some ⟨w.heap.size, 0, none⟩), .pointer (some ⟨w.heap.size + 1, 0, none⟩), .pointer (some ⟨w.heap.size + 1 + 1, 0, none⟩)]) (by simp) (by simp [go_sem]) ?_
      refine (idleE _ _ _ _).mono ?_
      rintro e u' w'' ⟨rfl, rfl, rfl⟩
      refine ⟨_, resE _ _ w.heap.size (w.heap.size + 1) (w.heap.size + 1 + 1) (.slice A1 nn cc1) ⟨#[]⟩ m rfl rfl rfl HEND.out.1 HEND.out.2.1 HEND.out.2.2.1, ?_⟩
      rw [HX.out]
      exact HEND.out.2.2.2
  · obtain ⟨g, rfl, hb⟩ := hev
    have HE := Lib.hid (fun w' (h : Below wj.heap.size wj w') => err_Permission m _ w' (blk_below hb h))
    have hm := meth_Permission
    have ha := ahead_Permission
    clear hb
    refine wp_only ?_
    go_region_with (go_at_call 119; refine (HE.out _ (by first | exact Below.refl _ _ | exact below_drew (Below.refl _ _) | exact pw_below_drewN (Below.refl _ _) _)).mono ?_; rintro e w3 ⟨rfl, rfl⟩)
    all_goals
      simp only [NormalOnly]
      go_wp2
      refine leaves_cons (f := 13) (args := #[.pointer (some ⟨w.heap.size, 0, none⟩), .pointer (some ⟨w.heap.size + 1, 0, none⟩), .pointer (some ⟨w.heap.size + 1 + 1, 0, none⟩)]) (by simp) (by simp [go_sem]) ?_
      refine (idleE _ _ _ _).mono ?_
      rintro e u' w'' ⟨rfl, rfl, rfl⟩
      refine ⟨_, resE _ _ w.heap.size (w.heap.size + 1) (w.heap.size + 1 + 1) (.slice A1 nn cc1) ⟨#[]⟩ m rfl rfl rfl HEND.out.1 HEND.out.2.1 HEND.out.2.2.1, ?_⟩
      rw [HX.out]
      exact HEND.out.2.2.2
  · obtain ⟨g, rfl, hb⟩ := hev
    have HE := Lib.hid (fun w' (h : Below wj.heap.size wj w') => err_ExecAbort m _ w' (blk_below hb h))
    have hm := meth_ExecAbort
    have ha := ahead_ExecAbort
    clear hb
    refine wp_only ?_
    go_region_with (go_at_call 121; refine (HE.out _ (by first | exact Below.refl _ _ | exact below_drew (Below.refl _ _) | exact pw_below_drewN (Below.refl _ _) _)).mono ?_; rintro e w3 ⟨rfl, rfl⟩)
    all_goals
      simp only [NormalOnly]
      go_wp2
      refine leaves_cons (f := 13) (args := #[.pointer (some ⟨w.heap.size, 0, none⟩), .pointer (some ⟨w.heap.size + 1, 0, none⟩), .pointer (some ⟨w.heap.size + 1 + 1, 0, none⟩)]) (by simp) (by simp [go_sem]) ?_
      refine (idleE _ _ _ _).mono ?_
      rintro e u' w'' ⟨rfl, rfl, rfl⟩
      refine ⟨_, resE _ _ w.heap.size (w.heap.size + 1) (w.heap.size + 1 + 1) (.slice A1 nn cc1) ⟨#[]⟩ m rfl rfl rfl HEND.out.1 HEND.out.2.1 HEND.out.2.2.1, ?_⟩
      rw [HX.out]
      exact HEND.out.2.2.2
  · obtain ⟨g, rfl, hb⟩ := hev
    have HE := Lib.hid (fun w' (h : Below wj.heap.size wj w') => err_OOM m _ w' (blk_below hb h))
    have hm := meth_OOM
    have ha := ahead_OOM
    clear hb
    refine wp_only ?_
    go_region_with (go_at_call 123; refine (HE.out _ (by first | exact Below.refl _ _ | exact below_drew (Below.refl _ _) | exact pw_below_drewN (Below.refl _ _) _)).mono ?_; rintro e w3 ⟨rfl, rfl⟩)
    all_goals
      simp only [NormalOnly]
      go_wp2
      refine leaves_cons (f := 13) (args := #[.pointer (some ⟨w.heap.size, 0, none⟩), .pointer (some ⟨w.heap.size + 1, 0, none⟩), .pointer (some ⟨w.heap.size + 1 + 1, 0, none⟩)]) (by simp) (by simp [go_sem]) ?_
      refine (idleE _ _ _ _).mono ?_
      rintro e u' w'' ⟨rfl, rfl, rfl⟩
      refine ⟨_, resE _ _ w.heap.size (w.heap.size + 1) (w.heap.size + 1 + 1) (.slice A1 nn cc1) ⟨#[]⟩ m rfl rfl rfl HEND.out.1 HEND.out.2.1 HEND.out.2.2.1, ?_⟩
      rw [HX.out]
      exact HEND.out.2.2.2
  · subst hev
    have hm := re_meth
    have ha := re_ahead
    refine wp_only ?_
    go_region_with (go_at_call 35; refine (re_error m _).mono ?_; rintro e w3 ⟨rfl, rfl⟩)
    all_goals
      simp only [NormalOnly]
      go_wp2
      refine leaves_cons (f := 13) (args := #[.pointer (some ⟨w.heap.size, 0, none⟩), .pointer (some ⟨w.heap.size + 1, 0, none⟩), .pointer (some ⟨w.heap.size + 1 + 1, 0, none⟩)]) (by simp) (by simp [go_sem]) ?_
      refine (idleE _ _ _ _).mono ?_
      rintro e u' w'' ⟨rfl, rfl, rfl⟩
      refine ⟨_, resE _ _ w.heap.size (w.heap.size + 1) (w.heap.size + 1 + 1) (.slice A1 nn cc1) ⟨#[]⟩ m rfl rfl rfl HEND.out.1 HEND.out.2.1 HEND.out.2.2.1, ?_⟩
      rw [HX.out]
      exact HEND.out.2.2.2
end Go.Proofs.YtkogipaaioibaaaGreat
