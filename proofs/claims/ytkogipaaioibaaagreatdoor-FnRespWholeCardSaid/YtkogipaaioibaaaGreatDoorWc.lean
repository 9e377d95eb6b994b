/- Replies on the wire: spec.write, way u. (seat r3.ZD; printed by gen_r3.py) Replies on the wire: spec.write, way v. (seat r3.ZD; printed by gen_r3.py) Replies on the wire: spec.write, way w. (seat r3.ZD; printed by gen_r3.py) Replies on the wire: spec.write, way x. (seat r3.ZD; printed by gen_r3.py) Replies on the wire: spec.write, way y. (seat r3.ZD; printed by gen_r3.py) Replies on the wire: spec.write, way o. (seat r3.ZD; printed by gen_r3.py) Replies on the wire: spec.write as a whole. (seat r3.ZD; printed by gen_r3.py) -/
import Derived.Test.YtkogipaaioibaaaGreatDoorWb
namespace Go.Proofs.YtkogipaaioibaaaGreatDoor
set_option linter.unusedVariables false
set_option linter.unusedSimpArgs false
open Go.RowKit Go.Proofs.YtkogipaaioibaaaGreatDoorW.PrintWords
set_option maxHeartbeats 4000000 in
set_option maxRecDepth 100000 in
theorem wr_42 (i f : Int) (s : ByteArray) (kids : List RP) (A : Option Addr) (c lb : Nat) (l d : Int) (w : World) (hl0 : 1 ≤ l) (hl1 : l ≤ 2000) (hd0 : 0 ≤ d) (hd1 : d ≤ 20) (hn : kids.length ≤ 1000) (hs : s.size ≤ 200) (hb : w.heap[lb]? = some (.cells #[.int .i64 l] 3 (0, 0))) (hi : ¬ i = -1) (N : Nat) (ih : WrSaid N) (hN : d + N = 20) (hc : kids.length ≤ c) (hnn : nodesAll kids ≤ 59) (hsh : shortAll kids) (hwf : wfAll kids) (w0 : World) (ht : Tb w0) (hw : Below w0.heap.size w0 w) (h0 : w0.heap.size ≤ lb) (hk : Kd.C kR w0 A kids.length kids) :
    Calls Tryz.prog 27 #[.agg #[.int .i64 42, .int .i64 i, .int .u64 f, .string s, .slice A kids.length c], .int .i64 d, .pointer (some ⟨lb, 0, none⟩)] w fun e w' => WrR ⟨42, i, f, s, kids⟩ w lb l e w' := by
  have hlt := blk_lt hb
  have c0 : w.cell? ⟨lb, 0, none⟩ = some (.int .i64 l) := blk_cell hb 0
  have f0 : w.frozen? ⟨lb, 0, none⟩ = false := blk_frozen hb 0
  have HVB := Lib.hid (wr_begin (k := 42) (i := i) (f := f) (s := s) (A := A) (n := kids.length) (c := c) hb)
  have HBA := Lib.hid (fun W => bare_any (42) i f s A kids.length c W (by omega))
  have HL := Lib.hid (And.intro hl0 hl1)
  have HT0 := Lib.hid (And.intro ht (And.intro hw h0))
  clear ht hw h0
  obtain ⟨tx, htx, hln, hf⟩ : ∃ tx, tx = ⟨(Lib.itoa (kids.length : Int)).toArray⟩ ∧ LnT tx ∧ ∀ W, Tb W → Calls Tryz.prog 42 #[.int .i64 (kids.length : Int)] W fun e w' => e = .returned (.string tx) ∧ Below W.heap.size W w' := ⟨_, rfl, itoa_ln _ (by omega) (by omega), fun W ht => itoa_any _ (by omega) (by omega) W ht⟩
  have hts := hln.2
  have HI := Lib.hid hf
  have HTX := Lib.hid htx
  clear hf hln htx
  have ha0 : ¬ 9223372036854775807 < 1 + tx.size := by omega
  have hb0 : ¬ 9223372036854775807 < (strOfNums [42]).size + tx.size := by show ¬ 9223372036854775807 < 1 + tx.size; omega
  have ha1 : ¬ 9223372036854775807 < 1 + tx.size + 2 := by omega
  have hb1 : ¬ 9223372036854775807 < (strOfNums [42]).size + tx.size + 2 := by show ¬ 9223372036854775807 < 1 + tx.size + 2; omega
  have HK := Aside0.mk hk
  have HN := Aside0.mk (And.intro hN (And.intro hc hnn))
  have HS := Aside0.mk (And.intro hsh hwf)
  have HIH := Aside0.mk ih
  clear hk hN hc hnn hsh hwf ih
  clear hb
  go_enter Tryz.func27, Tryz.ntmps27
  go_wp2_with fail
  refine (HBA.out _).mono ?_
  rintro e w1 ⟨b, rfl, hbel⟩
  have hv := HVB.out.below hbel
  have HV := Lib.hid hv
  have hsz : w.heap.size < w1.heap.size := blk_lt hv.box
  obtain ⟨b0, b1, b2, b3, b4⟩ := box5 hv.box
  have hcv := fun (W : World) => cv_lit W (W.alloc (.cells #[.int .u8 42] 5)) (42) (Below.refl _ _)
  have hs1 : (strOfNums [42]).size = 1 := rfl
  clear hv hbel HVB HBA c0 f0
  cases b
  · go_wp2_with fail
    go_ret2
    exact WrR.mk HV.out (Below.refl _ _) (by simp)
  · go_wp2_with fail
    refine (HI.out _ ((HV.out.tb HT0.out.1 HT0.out.2.1 HT0.out.2.2).below (by repeat (first | (with_reducible exact Below.refl _ _) | (with_reducible apply below_alloc) | (with_reducible apply pw_below_drewN) | (with_reducible apply below_drew))))).mono ?_
    rintro e w2 ⟨rfl, hb2⟩
    have hv2 := HV.out.below (Below.trans (by repeat (first | (with_reducible exact Below.refl _ _) | (with_reducible apply below_alloc) | (with_reducible apply pw_below_drewN) | (with_reducible apply below_drew))) (hb2.mono (Below.size (by repeat (first | (with_reducible exact Below.refl _ _) | (with_reducible apply below_alloc) | (with_reducible apply pw_below_drewN) | (with_reducible apply below_drew))))))
    have HV2 := Aside0.mk hv2
    have hsz2 : w.heap.size < w2.heap.size := blk_lt hv2.box
    obtain ⟨b0, b1, b2, b3, b4⟩ := box5 hv2.box
    have HH : Aside0 ((strOfNums [42] ++ tx) ++ ⟨#[13, 10]⟩ = hdA 42 (kids.length : Int)) := ⟨by rw [HTX.out]; rfl⟩
    clear hb2 hv2 HV HI hcv
    go_wp2_with fail
    rw [HH.out]
    obtain ⟨hdt, hhd⟩ : ∃ hdt, hdA 42 (kids.length : Int) = hdt := ⟨_, rfl⟩
    have HHD := Aside0.mk hhd
    rw [hhd]
    clear hhd HH
    go_loopg [11, 200] kids.length (fun gk v11 v200 wk => ∃ (j : Nat) (t : ByteArray) (lj : Int), v11 = .string t ∧ v200 = .int .i64 j ∧ Aside0 (j ≤ kids.length ∧ gk = kids.length - j) ∧ Aside0 (AB w wk lb lj 42 i f s A kids.length c) ∧ Aside0 (Acc 42 (kids.length : Int) (kids.take j) t) ∧ Aside0 (0 ≤ lj ∧ lj ≤ l - 1))
    case atStart => exact ⟨0, _, _, rfl, rfl, ⟨by omega⟩, HV2, ⟨by rw [← HHD.out]; exact Acc.start _ _⟩, ⟨by have := HL.out; omega, by omega⟩⟩
    case round =>
      clear HV2 HHD
      obtain ⟨j, t, lj, rfl, rfl, HJ, HVJ, HACC, HLJ⟩ := hrel
      rename_i wk _ _ _ _ _ _
      have hszb : w.heap.size < _ := blk_lt HVJ.out.box
      have hn1 := HN.out.2.1
      have hts : t.size ≤ 13000 := HACC.out.len (by have := nodesAll_take_le kids j; have := HN.out.2.2; omega) (by omega) (by omega)
      by_cases hj : j < kids.length
      · obtain ⟨y, hy⟩ : ∃ y, kids[j]? = some y := ⟨_, List.getElem?_eq_getElem hj⟩
        have hbr := HT0.out.2.1.grown HVJ.out.gr HT0.out.2.1.size (by rintro q hq; injection hq with hq; have := HT0.out.2.2; omega)
        obtain ⟨ad, B6, d6, hA, g0, g1, g2, g3, g4, l6, q6⟩ := PAll.at_T25 HK.out (j : Int) (by omega) (by omega)
        have hry : PAll.rd_T25 kids (j : Int) = y := by unfold Go.Proofs.YtkogipaaioibaaaGreatDoor.PAll.rd_T25; rw [Int.toNat_natCast, List.getD_eq_getElem?_getD, hy]; rfl
        rw [hry] at g0 g1 g2 g3 g4 l6 q6
        rw [Int.toNat_natCast] at g0 g1 g2 g3 g4
        have h0 := pw_cell_below hbr g0
        have h1 := pw_cell_below hbr g1
        have h2 := pw_cell_below hbr g2
        have h3 := pw_cell_below hbr g3
        have h4 := pw_cell_below hbr g4
        subst hA
        have HY := Aside0.mk hy
        have HQ := Aside0.mk (And.intro l6 q6)
        have HBR := Aside0.mk hbr
        clear g0 g1 g2 g3 g4 l6 q6 hry hy hbr
        have hal := HVJ.out.alloc (.cells #[.int .i64 y.f0, .int .i64 y.f1, .int .u64 y.f2, .string y.f3, .slice B6 y.f4.length d6] 25)
        have HX0 := HIH.out y B6 d6 lb lj (d + 1) w0 _ HLJ.out.1 (by have := HLJ.out.2; have := HL.out; omega) (by omega) (by have := HN.out.1; omega) HQ.out.1 (shortAll_at HS.out.1 HY.out) (wfAll_at HS.out.2 HY.out) (by have := nodes_at HY.out; have := HN.out.2.2; omega) HQ.out.2 (below_alloc HBR.out (.cells #[.int .i64 y.f0, .int .i64 y.f1, .int .u64 y.f2, .string y.f3, .slice B6 y.f4.length d6] 25)) HT0.out.2.2 HT0.out.1 hal.left
        unfold valR at HX0
        have HX := Aside0.mk HX0
        have HAL := Aside0.mk hal
        clear HX0 hal
        go_wp2_with fail
        refine (HX.out).mono ?_
        rintro e w3 ⟨u, r, l', rfl, hl', hr, hg⟩
        have hv3 : AB w w3 lb l' 42 i f s (some ad) kids.length c :=
          ⟨(hg.block w.heap.size (by simp; omega) (by simp; omega)).trans HAL.out.box, hl', grown_trans' HAL.out.gr hg⟩
        have HV3 := Aside0.mk hv3
        have HR3 := Aside0.mk hr
        clear hl' hr hg hv3 HX HAL
        cases r
        case false =>
          go_wp2_with fail
          go_ret2
          exact WrR.mk HV3.out (Below.refl _ _) (by simp)
        case true =>
          obtain ⟨hwu, hl0', hl1'⟩ := HR3.out rfl
          have HWU := Aside0.mk hwu
          have HLU := Aside0.mk (And.intro hl0' hl1')
          have hus : u.size ≤ 13000 := by
            have h1 := wire_len (nodes y) y (Nat.le_refl _) _ hwu
            rw [bytesOf_length] at h1
            have := nodes_at HY.out
            have := HN.out.2.2
            omega
          clear hwu hl0' hl1' HR3
          go_wp2_with fail
          go_roundg (kids.length - (j + 1))
          case measure => have := HJ.out.2; omega
          case rel => exact ⟨j + 1, _, l', rfl, by go_num, ⟨by omega⟩, HV3, ⟨HACC.out.next HY.out HWU.out⟩, ⟨HLU.out.1, by have := HLU.out.2; have := HLJ.out.2; omega⟩⟩
      · have hje : j = kids.length := by have := HJ.out.1; omega
        subst hje
        go_wp2_with fail
        go_ret2
        have h1 := HACC.out
        rw [List.take_length] at h1
        obtain ⟨a, h2, h3⟩ := h1
        exact WrR.mk HVJ.out (Below.refl _ _) (fun _ => ⟨wire_agg _ (Or.inl rfl) ⟨by decide, by decide⟩ hn (fun h => absurd h (by decide)) (fun h => absurd h (by decide)) (by unfold aggN; simp) h2 h3, HLJ.out.1, by have := HLJ.out.2; omega⟩)
end Go.Proofs.YtkogipaaioibaaaGreatDoor

namespace Go.Proofs.YtkogipaaioibaaaGreatDoor
set_option linter.unusedVariables false
set_option linter.unusedSimpArgs false
open Go.RowKit Go.Proofs.YtkogipaaioibaaaGreatDoorW.PrintWords
set_option maxHeartbeats 4000000 in
set_option maxRecDepth 100000 in
theorem wr_37 (i f : Int) (s : ByteArray) (kids : List RP) (A : Option Addr) (c lb : Nat) (l d : Int) (w : World) (hl0 : 1 ≤ l) (hl1 : l ≤ 2000) (hd0 : 0 ≤ d) (hd1 : d ≤ 20) (hn : kids.length ≤ 1000) (hs : s.size ≤ 200) (hb : w.heap[lb]? = some (.cells #[.int .i64 l] 3 (0, 0))) (N : Nat) (ih : WrSaid N) (hN : d + N = 20) (hc : kids.length ≤ c) (hnn : nodesAll kids ≤ 59) (hsh : shortAll kids) (hwf : wfAll kids) (w0 : World) (ht : Tb w0) (hw : Below w0.heap.size w0 w) (h0 : w0.heap.size ≤ lb) (hk : Kd.C kR w0 A kids.length kids) (hp : kids.length % 2 = 0) :
    Calls Tryz.prog 27 #[.agg #[.int .i64 37, .int .i64 i, .int .u64 f, .string s, .slice A kids.length c], .int .i64 d, .pointer (some ⟨lb, 0, none⟩)] w fun e w' => WrR ⟨37, i, f, s, kids⟩ w lb l e w' := by
  have hlt := blk_lt hb
  have c0 : w.cell? ⟨lb, 0, none⟩ = some (.int .i64 l) := blk_cell hb 0
  have f0 : w.frozen? ⟨lb, 0, none⟩ = false := blk_frozen hb 0
  have HVB := Lib.hid (wr_begin (k := 37) (i := i) (f := f) (s := s) (A := A) (n := kids.length) (c := c) hb)
  have HBA := Lib.hid (fun W => bare_any (37) i f s A kids.length c W (by omega))
  have HL := Lib.hid (And.intro hl0 hl1)
  have HT0 := Lib.hid (And.intro ht (And.intro hw h0))
  clear ht hw h0
  obtain ⟨tx, htx, hln, hf⟩ : ∃ tx, tx = ⟨(Lib.itoa ((kids.length : Int) / 2)).toArray⟩ ∧ LnT tx ∧ ∀ W, Tb W → Calls Tryz.prog 42 #[.int .i64 ((kids.length : Int) / 2)] W fun e w' => e = .returned (.string tx) ∧ Below W.heap.size W w' := ⟨_, rfl, itoa_ln _ (by omega) (by omega), fun W ht => itoa_any _ (by omega) (by omega) W ht⟩
  have hts := hln.2
  have HI := Lib.hid hf
  have HTX := Lib.hid htx
  clear hf hln htx
  have ha0 : ¬ 9223372036854775807 < 1 + tx.size := by omega
  have hb0 : ¬ 9223372036854775807 < (strOfNums [37]).size + tx.size := by show ¬ 9223372036854775807 < 1 + tx.size; omega
  have ha1 : ¬ 9223372036854775807 < 1 + tx.size + 2 := by omega
  have hb1 : ¬ 9223372036854775807 < (strOfNums [37]).size + tx.size + 2 := by show ¬ 9223372036854775807 < 1 + tx.size + 2; omega
  have HK := Aside0.mk hk
  have HN := Aside0.mk (And.intro hN (And.intro hc hnn))
  have HS := Aside0.mk (And.intro hsh hwf)
  have HIH := Aside0.mk ih
  clear hk hN hc hnn hsh hwf ih
  have hp2 : (kids.length : Int) % 2 = 0 := by omega
  have HP := Aside0.mk hp
  clear hp
  clear hb
  go_enter Tryz.func27, Tryz.ntmps27
  go_wp2_with fail
  refine (HBA.out _).mono ?_
  rintro e w1 ⟨b, rfl, hbel⟩
  have hv := HVB.out.below hbel
  have HV := Lib.hid hv
  have hsz : w.heap.size < w1.heap.size := blk_lt hv.box
  obtain ⟨b0, b1, b2, b3, b4⟩ := box5 hv.box
  have hcv := fun (W : World) => cv_lit W (W.alloc (.cells #[.int .u8 37] 5)) (37) (Below.refl _ _)
  have hs1 : (strOfNums [37]).size = 1 := rfl
  clear hv hbel HVB HBA c0 f0
  cases b
  · go_wp2_with fail
    go_ret2
    exact WrR.mk HV.out (Below.refl _ _) (by simp)
  · go_wp2_with fail
    refine (HI.out _ ((HV.out.tb HT0.out.1 HT0.out.2.1 HT0.out.2.2).below (by repeat (first | (with_reducible exact Below.refl _ _) | (with_reducible apply below_alloc) | (with_reducible apply pw_below_drewN) | (with_reducible apply below_drew))))).mono ?_
    rintro e w2 ⟨rfl, hb2⟩
    have hv2 := HV.out.below (Below.trans (by repeat (first | (with_reducible exact Below.refl _ _) | (with_reducible apply below_alloc) | (with_reducible apply pw_below_drewN) | (with_reducible apply below_drew))) (hb2.mono (Below.size (by repeat (first | (with_reducible exact Below.refl _ _) | (with_reducible apply below_alloc) | (with_reducible apply pw_below_drewN) | (with_reducible apply below_drew))))))
    have HV2 := Aside0.mk hv2
    have hsz2 : w.heap.size < w2.heap.size := blk_lt hv2.box
    obtain ⟨b0, b1, b2, b3, b4⟩ := box5 hv2.box
    have HH : Aside0 ((strOfNums [37] ++ tx) ++ ⟨#[13, 10]⟩ = hdA 37 ((kids.length : Int) / 2)) := ⟨by rw [HTX.out]; rfl⟩
    clear hb2 hv2 HV HI hcv
    go_wp2_with fail
    rw [HH.out]
    obtain ⟨hdt, hhd⟩ : ∃ hdt, hdA 37 ((kids.length : Int) / 2) = hdt := ⟨_, rfl⟩
    have HHD := Aside0.mk hhd
    rw [hhd]
    clear hhd HH
    go_loopg [11, 200] kids.length (fun gk v11 v200 wk => ∃ (j : Nat) (t : ByteArray) (lj : Int), v11 = .string t ∧ v200 = .int .i64 j ∧ Aside0 (j ≤ kids.length ∧ gk = kids.length - j) ∧ Aside0 (AB w wk lb lj 37 i f s A kids.length c) ∧ Aside0 (Acc 37 ((kids.length : Int) / 2) (kids.take j) t) ∧ Aside0 (0 ≤ lj ∧ lj ≤ l - 1))
    case atStart => exact ⟨0, _, _, rfl, rfl, ⟨by omega⟩, HV2, ⟨by rw [← HHD.out]; exact Acc.start _ _⟩, ⟨by have := HL.out; omega, by omega⟩⟩
    case round =>
      clear HV2 HHD
      obtain ⟨j, t, lj, rfl, rfl, HJ, HVJ, HACC, HLJ⟩ := hrel
      rename_i wk _ _ _ _ _ _
      have hszb : w.heap.size < _ := blk_lt HVJ.out.box
      have hn1 := HN.out.2.1
      have hts : t.size ≤ 13000 := HACC.out.len (by have := nodesAll_take_le kids j; have := HN.out.2.2; omega) (by omega) (by omega)
      by_cases hj : j < kids.length
      · obtain ⟨y, hy⟩ : ∃ y, kids[j]? = some y := ⟨_, List.getElem?_eq_getElem hj⟩
        have hbr := HT0.out.2.1.grown HVJ.out.gr HT0.out.2.1.size (by rintro q hq; injection hq with hq; have := HT0.out.2.2; omega)
        obtain ⟨ad, B6, d6, hA, g0, g1, g2, g3, g4, l6, q6⟩ := PAll.at_T25 HK.out (j : Int) (by omega) (by omega)
        have hry : PAll.rd_T25 kids (j : Int) = y := by unfold Go.Proofs.YtkogipaaioibaaaGreatDoor.PAll.rd_T25; rw [Int.toNat_natCast, List.getD_eq_getElem?_getD, hy]; rfl
        rw [hry] at g0 g1 g2 g3 g4 l6 q6
        rw [Int.toNat_natCast] at g0 g1 g2 g3 g4
        have h0 := pw_cell_below hbr g0
        have h1 := pw_cell_below hbr g1
        have h2 := pw_cell_below hbr g2
        have h3 := pw_cell_below hbr g3
        have h4 := pw_cell_below hbr g4
        subst hA
        have HY := Aside0.mk hy
        have HQ := Aside0.mk (And.intro l6 q6)
        have HBR := Aside0.mk hbr
        clear g0 g1 g2 g3 g4 l6 q6 hry hy hbr
        have hal := HVJ.out.alloc (.cells #[.int .i64 y.f0, .int .i64 y.f1, .int .u64 y.f2, .string y.f3, .slice B6 y.f4.length d6] 25)
        have HX0 := HIH.out y B6 d6 lb lj (d + 1) w0 _ HLJ.out.1 (by have := HLJ.out.2; have := HL.out; omega) (by omega) (by have := HN.out.1; omega) HQ.out.1 (shortAll_at HS.out.1 HY.out) (wfAll_at HS.out.2 HY.out) (by have := nodes_at HY.out; have := HN.out.2.2; omega) HQ.out.2 (below_alloc HBR.out (.cells #[.int .i64 y.f0, .int .i64 y.f1, .int .u64 y.f2, .string y.f3, .slice B6 y.f4.length d6] 25)) HT0.out.2.2 HT0.out.1 hal.left
        unfold valR at HX0
        have HX := Aside0.mk HX0
        have HAL := Aside0.mk hal
        clear HX0 hal
        go_wp2_with fail
        refine (HX.out).mono ?_
        rintro e w3 ⟨u, r, l', rfl, hl', hr, hg⟩
        have hv3 : AB w w3 lb l' 37 i f s (some ad) kids.length c :=
          ⟨(hg.block w.heap.size (by simp; omega) (by simp; omega)).trans HAL.out.box, hl', grown_trans' HAL.out.gr hg⟩
        have HV3 := Aside0.mk hv3
        have HR3 := Aside0.mk hr
        clear hl' hr hg hv3 HX HAL
        cases r
        case false =>
          go_wp2_with fail
          go_ret2
          exact WrR.mk HV3.out (Below.refl _ _) (by simp)
        case true =>
          obtain ⟨hwu, hl0', hl1'⟩ := HR3.out rfl
          have HWU := Aside0.mk hwu
          have HLU := Aside0.mk (And.intro hl0' hl1')
          have hus : u.size ≤ 13000 := by
            have h1 := wire_len (nodes y) y (Nat.le_refl _) _ hwu
            rw [bytesOf_length] at h1
            have := nodes_at HY.out
            have := HN.out.2.2
            omega
          clear hwu hl0' hl1' HR3
          go_wp2_with fail
          go_roundg (kids.length - (j + 1))
          case measure => have := HJ.out.2; omega
          case rel => exact ⟨j + 1, _, l', rfl, by go_num, ⟨by omega⟩, HV3, ⟨HACC.out.next HY.out HWU.out⟩, ⟨HLU.out.1, by have := HLU.out.2; have := HLJ.out.2; omega⟩⟩
      · have hje : j = kids.length := by have := HJ.out.1; omega
        subst hje
        go_wp2_with fail
        go_ret2
        have h1 := HACC.out
        rw [List.take_length] at h1
        obtain ⟨a, h2, h3⟩ := h1
        exact WrR.mk HVJ.out (Below.refl _ _) (fun _ => ⟨wire_agg _ (Or.inr (Or.inl rfl)) ⟨by decide, by decide⟩ hn (fun _ => HP.out) (fun h => absurd h (by decide)) (by unfold aggN; simp) h2 h3, HLJ.out.1, by have := HLJ.out.2; omega⟩)
end Go.Proofs.YtkogipaaioibaaaGreatDoor

namespace Go.Proofs.YtkogipaaioibaaaGreatDoor
set_option linter.unusedVariables false
set_option linter.unusedSimpArgs false
open Go.RowKit Go.Proofs.YtkogipaaioibaaaGreatDoorW.PrintWords
set_option maxHeartbeats 4000000 in
set_option maxRecDepth 100000 in
theorem wr_126 (i f : Int) (s : ByteArray) (kids : List RP) (A : Option Addr) (c lb : Nat) (l d : Int) (w : World) (hl0 : 1 ≤ l) (hl1 : l ≤ 2000) (hd0 : 0 ≤ d) (hd1 : d ≤ 20) (hn : kids.length ≤ 1000) (hs : s.size ≤ 200) (hb : w.heap[lb]? = some (.cells #[.int .i64 l] 3 (0, 0))) (N : Nat) (ih : WrSaid N) (hN : d + N = 20) (hc : kids.length ≤ c) (hnn : nodesAll kids ≤ 59) (hsh : shortAll kids) (hwf : wfAll kids) (w0 : World) (ht : Tb w0) (hw : Below w0.heap.size w0 w) (h0 : w0.heap.size ≤ lb) (hk : Kd.C kR w0 A kids.length kids) :
    Calls Tryz.prog 27 #[.agg #[.int .i64 126, .int .i64 i, .int .u64 f, .string s, .slice A kids.length c], .int .i64 d, .pointer (some ⟨lb, 0, none⟩)] w fun e w' => WrR ⟨126, i, f, s, kids⟩ w lb l e w' := by
  have hlt := blk_lt hb
  have c0 : w.cell? ⟨lb, 0, none⟩ = some (.int .i64 l) := blk_cell hb 0
  have f0 : w.frozen? ⟨lb, 0, none⟩ = false := blk_frozen hb 0
  have HVB := Lib.hid (wr_begin (k := 126) (i := i) (f := f) (s := s) (A := A) (n := kids.length) (c := c) hb)
  have HBA := Lib.hid (fun W => bare_any (126) i f s A kids.length c W (by omega))
  have HL := Lib.hid (And.intro hl0 hl1)
  have HT0 := Lib.hid (And.intro ht (And.intro hw h0))
  clear ht hw h0
  obtain ⟨tx, htx, hln, hf⟩ : ∃ tx, tx = ⟨(Lib.itoa (kids.length : Int)).toArray⟩ ∧ LnT tx ∧ ∀ W, Tb W → Calls Tryz.prog 42 #[.int .i64 (kids.length : Int)] W fun e w' => e = .returned (.string tx) ∧ Below W.heap.size W w' := ⟨_, rfl, itoa_ln _ (by omega) (by omega), fun W ht => itoa_any _ (by omega) (by omega) W ht⟩
  have hts := hln.2
  have HI := Lib.hid hf
  have HTX := Lib.hid htx
  clear hf hln htx
  have ha0 : ¬ 9223372036854775807 < 1 + tx.size := by omega
  have hb0 : ¬ 9223372036854775807 < (strOfNums [126]).size + tx.size := by show ¬ 9223372036854775807 < 1 + tx.size; omega
  have ha1 : ¬ 9223372036854775807 < 1 + tx.size + 2 := by omega
  have hb1 : ¬ 9223372036854775807 < (strOfNums [126]).size + tx.size + 2 := by show ¬ 9223372036854775807 < 1 + tx.size + 2; omega
  have HK := Aside0.mk hk
  have HN := Aside0.mk (And.intro hN (And.intro hc hnn))
  have HS := Aside0.mk (And.intro hsh hwf)
  have HIH := Aside0.mk ih
  clear hk hN hc hnn hsh hwf ih
  clear hb
  go_enter Tryz.func27, Tryz.ntmps27
  go_wp2_with fail
  refine (HBA.out _).mono ?_
  rintro e w1 ⟨b, rfl, hbel⟩
  have hv := HVB.out.below hbel
  have HV := Lib.hid hv
  have hsz : w.heap.size < w1.heap.size := blk_lt hv.box
  obtain ⟨b0, b1, b2, b3, b4⟩ := box5 hv.box
  have hcv := fun (W : World) => cv_lit W (W.alloc (.cells #[.int .u8 126] 5)) (126) (Below.refl _ _)
  have hs1 : (strOfNums [126]).size = 1 := rfl
  clear hv hbel HVB HBA c0 f0
  cases b
  · go_wp2_with fail
    go_ret2
    exact WrR.mk HV.out (Below.refl _ _) (by simp)
  · go_wp2_with fail
    refine (HI.out _ ((HV.out.tb HT0.out.1 HT0.out.2.1 HT0.out.2.2).below (by repeat (first | (with_reducible exact Below.refl _ _) | (with_reducible apply below_alloc) | (with_reducible apply pw_below_drewN) | (with_reducible apply below_drew))))).mono ?_
    rintro e w2 ⟨rfl, hb2⟩
    have hv2 := HV.out.below (Below.trans (by repeat (first | (with_reducible exact Below.refl _ _) | (with_reducible apply below_alloc) | (with_reducible apply pw_below_drewN) | (with_reducible apply below_drew))) (hb2.mono (Below.size (by repeat (first | (with_reducible exact Below.refl _ _) | (with_reducible apply below_alloc) | (with_reducible apply pw_below_drewN) | (with_reducible apply below_drew))))))
    have HV2 := Aside0.mk hv2
    have hsz2 : w.heap.size < w2.heap.size := blk_lt hv2.box
    obtain ⟨b0, b1, b2, b3, b4⟩ := box5 hv2.box
    have HH : Aside0 ((strOfNums [126] ++ tx) ++ ⟨#[13, 10]⟩ = hdA 126 (kids.length : Int)) := ⟨by rw [HTX.out]; rfl⟩
    clear hb2 hv2 HV HI hcv
    go_wp2_with fail
    rw [HH.out]
    obtain ⟨hdt, hhd⟩ : ∃ hdt, hdA 126 (kids.length : Int) = hdt := ⟨_, rfl⟩
    have HHD := Aside0.mk hhd
    rw [hhd]
    clear hhd HH
    go_loopg [11, 200] kids.length (fun gk v11 v200 wk => ∃ (j : Nat) (t : ByteArray) (lj : Int), v11 = .string t ∧ v200 = .int .i64 j ∧ Aside0 (j ≤ kids.length ∧ gk = kids.length - j) ∧ Aside0 (AB w wk lb lj 126 i f s A kids.length c) ∧ Aside0 (Acc 126 (kids.length : Int) (kids.take j) t) ∧ Aside0 (0 ≤ lj ∧ lj ≤ l - 1))
    case atStart => exact ⟨0, _, _, rfl, rfl, ⟨by omega⟩, HV2, ⟨by rw [← HHD.out]; exact Acc.start _ _⟩, ⟨by have := HL.out; omega, by omega⟩⟩
    case round =>
      clear HV2 HHD
      obtain ⟨j, t, lj, rfl, rfl, HJ, HVJ, HACC, HLJ⟩ := hrel
      rename_i wk _ _ _ _ _ _
      have hszb : w.heap.size < _ := blk_lt HVJ.out.box
      have hn1 := HN.out.2.1
      have hts : t.size ≤ 13000 := HACC.out.len (by have := nodesAll_take_le kids j; have := HN.out.2.2; omega) (by omega) (by omega)
      by_cases hj : j < kids.length
      · obtain ⟨y, hy⟩ : ∃ y, kids[j]? = some y := ⟨_, List.getElem?_eq_getElem hj⟩
        have hbr := HT0.out.2.1.grown HVJ.out.gr HT0.out.2.1.size (by rintro q hq; injection hq with hq; have := HT0.out.2.2; omega)
        obtain ⟨ad, B6, d6, hA, g0, g1, g2, g3, g4, l6, q6⟩ := PAll.at_T25 HK.out (j : Int) (by omega) (by omega)
        have hry : PAll.rd_T25 kids (j : Int) = y := by unfold Go.Proofs.YtkogipaaioibaaaGreatDoor.PAll.rd_T25; rw [Int.toNat_natCast, List.getD_eq_getElem?_getD, hy]; rfl
        rw [hry] at g0 g1 g2 g3 g4 l6 q6
        rw [Int.toNat_natCast] at g0 g1 g2 g3 g4
        have h0 := pw_cell_below hbr g0
        have h1 := pw_cell_below hbr g1
        have h2 := pw_cell_below hbr g2
        have h3 := pw_cell_below hbr g3
        have h4 := pw_cell_below hbr g4
        subst hA
        have HY := Aside0.mk hy
        have HQ := Aside0.mk (And.intro l6 q6)
        have HBR := Aside0.mk hbr
        clear g0 g1 g2 g3 g4 l6 q6 hry hy hbr
        have hal := HVJ.out.alloc (.cells #[.int .i64 y.f0, .int .i64 y.f1, .int .u64 y.f2, .string y.f3, .slice B6 y.f4.length d6] 25)
        have HX0 := HIH.out y B6 d6 lb lj (d + 1) w0 _ HLJ.out.1 (by have := HLJ.out.2; have := HL.out; omega) (by omega) (by have := HN.out.1; omega) HQ.out.1 (shortAll_at HS.out.1 HY.out) (wfAll_at HS.out.2 HY.out) (by have := nodes_at HY.out; have := HN.out.2.2; omega) HQ.out.2 (below_alloc HBR.out (.cells #[.int .i64 y.f0, .int .i64 y.f1, .int .u64 y.f2, .string y.f3, .slice B6 y.f4.length d6] 25)) HT0.out.2.2 HT0.out.1 hal.left
        unfold valR at HX0
        have HX := Aside0.mk HX0
        have HAL := Aside0.mk hal
        clear HX0 hal
        go_wp2_with fail
        refine (HX.out).mono ?_
        rintro e w3 ⟨u, r, l', rfl, hl', hr, hg⟩
        have hv3 : AB w w3 lb l' 126 i f s (some ad) kids.length c :=
          ⟨(hg.block w.heap.size (by simp; omega) (by simp; omega)).trans HAL.out.box, hl', grown_trans' HAL.out.gr hg⟩
        have HV3 := Aside0.mk hv3
        have HR3 := Aside0.mk hr
        clear hl' hr hg hv3 HX HAL
        cases r
        case false =>
          go_wp2_with fail
          go_ret2
          exact WrR.mk HV3.out (Below.refl _ _) (by simp)
        case true =>
          obtain ⟨hwu, hl0', hl1'⟩ := HR3.out rfl
          have HWU := Aside0.mk hwu
          have HLU := Aside0.mk (And.intro hl0' hl1')
          have hus : u.size ≤ 13000 := by
            have h1 := wire_len (nodes y) y (Nat.le_refl _) _ hwu
            rw [bytesOf_length] at h1
            have := nodes_at HY.out
            have := HN.out.2.2
            omega
          clear hwu hl0' hl1' HR3
          go_wp2_with fail
          go_roundg (kids.length - (j + 1))
          case measure => have := HJ.out.2; omega
          case rel => exact ⟨j + 1, _, l', rfl, by go_num, ⟨by omega⟩, HV3, ⟨HACC.out.next HY.out HWU.out⟩, ⟨HLU.out.1, by have := HLU.out.2; have := HLJ.out.2; omega⟩⟩
      · have hje : j = kids.length := by have := HJ.out.1; omega
        subst hje
        go_wp2_with fail
        go_ret2
        have h1 := HACC.out
        rw [List.take_length] at h1
        obtain ⟨a, h2, h3⟩ := h1
        exact WrR.mk HVJ.out (Below.refl _ _) (fun _ => ⟨wire_agg _ (Or.inr (Or.inr (Or.inl rfl))) ⟨by decide, by decide⟩ hn (fun h => absurd h (by decide)) (fun h => absurd h (by decide)) (by unfold aggN; simp) h2 h3, HLJ.out.1, by have := HLJ.out.2; omega⟩)
end Go.Proofs.YtkogipaaioibaaaGreatDoor

namespace Go.Proofs.YtkogipaaioibaaaGreatDoor
set_option linter.unusedVariables false
set_option linter.unusedSimpArgs false
open Go.RowKit Go.Proofs.YtkogipaaioibaaaGreatDoorW.PrintWords
set_option maxHeartbeats 4000000 in
set_option maxRecDepth 100000 in
theorem wr_124 (i f : Int) (s : ByteArray) (kids : List RP) (A : Option Addr) (c lb : Nat) (l d : Int) (w : World) (hl0 : 1 ≤ l) (hl1 : l ≤ 2000) (hd0 : 0 ≤ d) (hd1 : d ≤ 20) (hn : kids.length ≤ 1000) (hs : s.size ≤ 200) (hb : w.heap[lb]? = some (.cells #[.int .i64 l] 3 (0, 0))) (N : Nat) (ih : WrSaid N) (hN : d + N = 20) (hc : kids.length ≤ c) (hnn : nodesAll kids ≤ 59) (hsh : shortAll kids) (hwf : wfAll kids) (w0 : World) (ht : Tb w0) (hw : Below w0.heap.size w0 w) (h0 : w0.heap.size ≤ lb) (hk : Kd.C kR w0 A kids.length kids) (hp : kids.length % 2 = 1) :
    Calls Tryz.prog 27 #[.agg #[.int .i64 124, .int .i64 i, .int .u64 f, .string s, .slice A kids.length c], .int .i64 d, .pointer (some ⟨lb, 0, none⟩)] w fun e w' => WrR ⟨124, i, f, s, kids⟩ w lb l e w' := by
  have hlt := blk_lt hb
  have c0 : w.cell? ⟨lb, 0, none⟩ = some (.int .i64 l) := blk_cell hb 0
  have f0 : w.frozen? ⟨lb, 0, none⟩ = false := blk_frozen hb 0
  have HVB := Lib.hid (wr_begin (k := 124) (i := i) (f := f) (s := s) (A := A) (n := kids.length) (c := c) hb)
  have HBA := Lib.hid (fun W => bare_any (124) i f s A kids.length c W (by omega))
  have HL := Lib.hid (And.intro hl0 hl1)
  have HT0 := Lib.hid (And.intro ht (And.intro hw h0))
  clear ht hw h0
  obtain ⟨tx, htx, hln, hf⟩ : ∃ tx, tx = ⟨(Lib.itoa ((kids.length : Int) / 2)).toArray⟩ ∧ LnT tx ∧ ∀ W, Tb W → Calls Tryz.prog 42 #[.int .i64 ((kids.length : Int) / 2)] W fun e w' => e = .returned (.string tx) ∧ Below W.heap.size W w' := ⟨_, rfl, itoa_ln _ (by omega) (by omega), fun W ht => itoa_any _ (by omega) (by omega) W ht⟩
  have hts := hln.2
  have HI := Lib.hid hf
  have HTX := Lib.hid htx
  clear hf hln htx
  have ha0 : ¬ 9223372036854775807 < 1 + tx.size := by omega
  have hb0 : ¬ 9223372036854775807 < (strOfNums [124]).size + tx.size := by show ¬ 9223372036854775807 < 1 + tx.size; omega
  have ha1 : ¬ 9223372036854775807 < 1 + tx.size + 2 := by omega
  have hb1 : ¬ 9223372036854775807 < (strOfNums [124]).size + tx.size + 2 := by show ¬ 9223372036854775807 < 1 + tx.size + 2; omega
  have HK := Aside0.mk hk
  have HN := Aside0.mk (And.intro hN (And.intro hc hnn))
  have HS := Aside0.mk (And.intro hsh hwf)
  have HIH := Aside0.mk ih
  clear hk hN hc hnn hsh hwf ih
  have hp2 : (kids.length : Int) % 2 = 1 := by omega
  have HP := Aside0.mk hp
  clear hp
  clear hb
  go_enter Tryz.func27, Tryz.ntmps27
  go_wp2_with fail
  refine (HBA.out _).mono ?_
  rintro e w1 ⟨b, rfl, hbel⟩
  have hv := HVB.out.below hbel
  have HV := Lib.hid hv
  have hsz : w.heap.size < w1.heap.size := blk_lt hv.box
  obtain ⟨b0, b1, b2, b3, b4⟩ := box5 hv.box
  have hcv := fun (W : World) => cv_lit W (W.alloc (.cells #[.int .u8 124] 5)) (124) (Below.refl _ _)
  have hs1 : (strOfNums [124]).size = 1 := rfl
  clear hv hbel HVB HBA c0 f0
  cases b
  · go_wp2_with fail
    go_ret2
    exact WrR.mk HV.out (Below.refl _ _) (by simp)
  · go_wp2_with fail
    refine (HI.out _ ((HV.out.tb HT0.out.1 HT0.out.2.1 HT0.out.2.2).below (by repeat (first | (with_reducible exact Below.refl _ _) | (with_reducible apply below_alloc) | (with_reducible apply pw_below_drewN) | (with_reducible apply below_drew))))).mono ?_
    rintro e w2 ⟨rfl, hb2⟩
    have hv2 := HV.out.below (Below.trans (by repeat (first | (with_reducible exact Below.refl _ _) | (with_reducible apply below_alloc) | (with_reducible apply pw_below_drewN) | (with_reducible apply below_drew))) (hb2.mono (Below.size (by repeat (first | (with_reducible exact Below.refl _ _) | (with_reducible apply below_alloc) | (with_reducible apply pw_below_drewN) | (with_reducible apply below_drew))))))
    have HV2 := Aside0.mk hv2
    have hsz2 : w.heap.size < w2.heap.size := blk_lt hv2.box
    obtain ⟨b0, b1, b2, b3, b4⟩ := box5 hv2.box
    have HH : Aside0 ((strOfNums [124] ++ tx) ++ ⟨#[13, 10]⟩ = hdA 124 ((kids.length : Int) / 2)) := ⟨by rw [HTX.out]; rfl⟩
    clear hb2 hv2 HV HI hcv
    go_wp2_with fail
    rw [HH.out]
    obtain ⟨hdt, hhd⟩ : ∃ hdt, hdA 124 ((kids.length : Int) / 2) = hdt := ⟨_, rfl⟩
    have HHD := Aside0.mk hhd
    rw [hhd]
    clear hhd HH
    go_loopg [11, 200] kids.length (fun gk v11 v200 wk => ∃ (j : Nat) (t : ByteArray) (lj : Int), v11 = .string t ∧ v200 = .int .i64 j ∧ Aside0 (j ≤ kids.length ∧ gk = kids.length - j) ∧ Aside0 (AB w wk lb lj 124 i f s A kids.length c) ∧ Aside0 (Acc 124 ((kids.length : Int) / 2) (kids.take j) t) ∧ Aside0 (0 ≤ lj ∧ lj ≤ l - 1))
    case atStart => exact ⟨0, _, _, rfl, rfl, ⟨by omega⟩, HV2, ⟨by rw [← HHD.out]; exact Acc.start _ _⟩, ⟨by have := HL.out; omega, by omega⟩⟩
    case round =>
      clear HV2 HHD
      obtain ⟨j, t, lj, rfl, rfl, HJ, HVJ, HACC, HLJ⟩ := hrel
      rename_i wk _ _ _ _ _ _
      have hszb : w.heap.size < _ := blk_lt HVJ.out.box
      have hn1 := HN.out.2.1
      have hts : t.size ≤ 13000 := HACC.out.len (by have := nodesAll_take_le kids j; have := HN.out.2.2; omega) (by omega) (by omega)
      by_cases hj : j < kids.length
      · obtain ⟨y, hy⟩ : ∃ y, kids[j]? = some y := ⟨_, List.getElem?_eq_getElem hj⟩
        have hbr := HT0.out.2.1.grown HVJ.out.gr HT0.out.2.1.size (by rintro q hq; injection hq with hq; have := HT0.out.2.2; omega)
        obtain ⟨ad, B6, d6, hA, g0, g1, g2, g3, g4, l6, q6⟩ := PAll.at_T25 HK.out (j : Int) (by omega) (by omega)
        have hry : PAll.rd_T25 kids (j : Int) = y := by unfold Go.Proofs.YtkogipaaioibaaaGreatDoor.PAll.rd_T25; rw [Int.toNat_natCast, List.getD_eq_getElem?_getD, hy]; rfl
        rw [hry] at g0 g1 g2 g3 g4 l6 q6
        rw [Int.toNat_natCast] at g0 g1 g2 g3 g4
        have h0 := pw_cell_below hbr g0
        have h1 := pw_cell_below hbr g1
        have h2 := pw_cell_below hbr g2
        have h3 := pw_cell_below hbr g3
        have h4 := pw_cell_below hbr g4
        subst hA
        have HY := Aside0.mk hy
        have HQ := Aside0.mk (And.intro l6 q6)
        have HBR := Aside0.mk hbr
        clear g0 g1 g2 g3 g4 l6 q6 hry hy hbr
        have hal := HVJ.out.alloc (.cells #[.int .i64 y.f0, .int .i64 y.f1, .int .u64 y.f2, .string y.f3, .slice B6 y.f4.length d6] 25)
        have HX0 := HIH.out y B6 d6 lb lj (d + 1) w0 _ HLJ.out.1 (by have := HLJ.out.2; have := HL.out; omega) (by omega) (by have := HN.out.1; omega) HQ.out.1 (shortAll_at HS.out.1 HY.out) (wfAll_at HS.out.2 HY.out) (by have := nodes_at HY.out; have := HN.out.2.2; omega) HQ.out.2 (below_alloc HBR.out (.cells #[.int .i64 y.f0, .int .i64 y.f1, .int .u64 y.f2, .string y.f3, .slice B6 y.f4.length d6] 25)) HT0.out.2.2 HT0.out.1 hal.left
        unfold valR at HX0
        have HX := Aside0.mk HX0
        have HAL := Aside0.mk hal
        clear HX0 hal
        go_wp2_with fail
        refine (HX.out).mono ?_
        rintro e w3 ⟨u, r, l', rfl, hl', hr, hg⟩
        have hv3 : AB w w3 lb l' 124 i f s (some ad) kids.length c :=
          ⟨(hg.block w.heap.size (by simp; omega) (by simp; omega)).trans HAL.out.box, hl', grown_trans' HAL.out.gr hg⟩
        have HV3 := Aside0.mk hv3
        have HR3 := Aside0.mk hr
        clear hl' hr hg hv3 HX HAL
        cases r
        case false =>
          go_wp2_with fail
          go_ret2
          exact WrR.mk HV3.out (Below.refl _ _) (by simp)
        case true =>
          obtain ⟨hwu, hl0', hl1'⟩ := HR3.out rfl
          have HWU := Aside0.mk hwu
          have HLU := Aside0.mk (And.intro hl0' hl1')
          have hus : u.size ≤ 13000 := by
            have h1 := wire_len (nodes y) y (Nat.le_refl _) _ hwu
            rw [bytesOf_length] at h1
            have := nodes_at HY.out
            have := HN.out.2.2
            omega
          clear hwu hl0' hl1' HR3
          go_wp2_with fail
          go_roundg (kids.length - (j + 1))
          case measure => have := HJ.out.2; omega
          case rel => exact ⟨j + 1, _, l', rfl, by go_num, ⟨by omega⟩, HV3, ⟨HACC.out.next HY.out HWU.out⟩, ⟨HLU.out.1, by have := HLU.out.2; have := HLJ.out.2; omega⟩⟩
      · have hje : j = kids.length := by have := HJ.out.1; omega
        subst hje
        go_wp2_with fail
        go_ret2
        have h1 := HACC.out
        rw [List.take_length] at h1
        obtain ⟨a, h2, h3⟩ := h1
        exact WrR.mk HVJ.out (Below.refl _ _) (fun _ => ⟨wire_agg _ (Or.inr (Or.inr (Or.inr (Or.inl rfl)))) ⟨by decide, by decide⟩ hn (fun h => absurd h (by decide)) (fun _ => HP.out) (by unfold aggN; simp) h2 h3, HLJ.out.1, by have := HLJ.out.2; omega⟩)
end Go.Proofs.YtkogipaaioibaaaGreatDoor

namespace Go.Proofs.YtkogipaaioibaaaGreatDoor
set_option linter.unusedVariables false
set_option linter.unusedSimpArgs false
open Go.RowKit Go.Proofs.YtkogipaaioibaaaGreatDoorW.PrintWords
set_option maxHeartbeats 4000000 in
set_option maxRecDepth 100000 in
theorem wr_62 (i f : Int) (s : ByteArray) (kids : List RP) (A : Option Addr) (c lb : Nat) (l d : Int) (w : World) (hl0 : 1 ≤ l) (hl1 : l ≤ 2000) (hd0 : 0 ≤ d) (hd1 : d ≤ 20) (hn : kids.length ≤ 1000) (hs : s.size ≤ 200) (hb : w.heap[lb]? = some (.cells #[.int .i64 l] 3 (0, 0))) (N : Nat) (ih : WrSaid N) (hN : d + N = 20) (hc : kids.length ≤ c) (hnn : nodesAll kids ≤ 59) (hsh : shortAll kids) (hwf : wfAll kids) (w0 : World) (ht : Tb w0) (hw : Below w0.heap.size w0 w) (h0 : w0.heap.size ≤ lb) (hk : Kd.C kR w0 A kids.length kids) :
    Calls Tryz.prog 27 #[.agg #[.int .i64 62, .int .i64 i, .int .u64 f, .string s, .slice A kids.length c], .int .i64 d, .pointer (some ⟨lb, 0, none⟩)] w fun e w' => WrR ⟨62, i, f, s, kids⟩ w lb l e w' := by
  have hlt := blk_lt hb
  have c0 : w.cell? ⟨lb, 0, none⟩ = some (.int .i64 l) := blk_cell hb 0
  have f0 : w.frozen? ⟨lb, 0, none⟩ = false := blk_frozen hb 0
  have HVB := Lib.hid (wr_begin (k := 62) (i := i) (f := f) (s := s) (A := A) (n := kids.length) (c := c) hb)
  have HBA := Lib.hid (fun W => bare_any (62) i f s A kids.length c W (by omega))
  have HL := Lib.hid (And.intro hl0 hl1)
  have HT0 := Lib.hid (And.intro ht (And.intro hw h0))
  clear ht hw h0
  obtain ⟨tx, htx, hln, hf⟩ : ∃ tx, tx = ⟨(Lib.itoa (kids.length : Int)).toArray⟩ ∧ LnT tx ∧ ∀ W, Tb W → Calls Tryz.prog 42 #[.int .i64 (kids.length : Int)] W fun e w' => e = .returned (.string tx) ∧ Below W.heap.size W w' := ⟨_, rfl, itoa_ln _ (by omega) (by omega), fun W ht => itoa_any _ (by omega) (by omega) W ht⟩
  have hts := hln.2
  have HI := Lib.hid hf
  have HTX := Lib.hid htx
  clear hf hln htx
  have ha0 : ¬ 9223372036854775807 < 1 + tx.size := by omega
  have hb0 : ¬ 9223372036854775807 < (strOfNums [62]).size + tx.size := by show ¬ 9223372036854775807 < 1 + tx.size; omega
  have ha1 : ¬ 9223372036854775807 < 1 + tx.size + 2 := by omega
  have hb1 : ¬ 9223372036854775807 < (strOfNums [62]).size + tx.size + 2 := by show ¬ 9223372036854775807 < 1 + tx.size + 2; omega
  have HK := Aside0.mk hk
  have HN := Aside0.mk (And.intro hN (And.intro hc hnn))
  have HS := Aside0.mk (And.intro hsh hwf)
  have HIH := Aside0.mk ih
  clear hk hN hc hnn hsh hwf ih
  clear hb
  go_enter Tryz.func27, Tryz.ntmps27
  go_wp2_with fail
  refine (HBA.out _).mono ?_
  rintro e w1 ⟨b, rfl, hbel⟩
  have hv := HVB.out.below hbel
  have HV := Lib.hid hv
  have hsz : w.heap.size < w1.heap.size := blk_lt hv.box
  obtain ⟨b0, b1, b2, b3, b4⟩ := box5 hv.box
  have hcv := fun (W : World) => cv_lit W (W.alloc (.cells #[.int .u8 62] 5)) (62) (Below.refl _ _)
  have hs1 : (strOfNums [62]).size = 1 := rfl
  clear hv hbel HVB HBA c0 f0
  cases b
  · go_wp2_with fail
    go_ret2
    exact WrR.mk HV.out (Below.refl _ _) (by simp)
  · go_wp2_with fail
    refine (HI.out _ ((HV.out.tb HT0.out.1 HT0.out.2.1 HT0.out.2.2).below (by repeat (first | (with_reducible exact Below.refl _ _) | (with_reducible apply below_alloc) | (with_reducible apply pw_below_drewN) | (with_reducible apply below_drew))))).mono ?_
    rintro e w2 ⟨rfl, hb2⟩
    have hv2 := HV.out.below (Below.trans (by repeat (first | (with_reducible exact Below.refl _ _) | (with_reducible apply below_alloc) | (with_reducible apply pw_below_drewN) | (with_reducible apply below_drew))) (hb2.mono (Below.size (by repeat (first | (with_reducible exact Below.refl _ _) | (with_reducible apply below_alloc) | (with_reducible apply pw_below_drewN) | (with_reducible apply below_drew))))))
    have HV2 := Aside0.mk hv2
    have hsz2 : w.heap.size < w2.heap.size := blk_lt hv2.box
    obtain ⟨b0, b1, b2, b3, b4⟩ := box5 hv2.box
    have HH : Aside0 ((strOfNums [62] ++ tx) ++ ⟨#[13, 10]⟩ = hdA 62 (kids.length : Int)) := ⟨by rw [HTX.out]; rfl⟩
    clear hb2 hv2 HV HI hcv
    go_wp2_with fail
    rw [HH.out]
    obtain ⟨hdt, hhd⟩ : ∃ hdt, hdA 62 (kids.length : Int) = hdt := ⟨_, rfl⟩
    have HHD := Aside0.mk hhd
    rw [hhd]
    clear hhd HH
    go_loopg [11, 200] kids.length (fun gk v11 v200 wk => ∃ (j : Nat) (t : ByteArray) (lj : Int), v11 = .string t ∧ v200 = .int .i64 j ∧ Aside0 (j ≤ kids.length ∧ gk = kids.length - j) ∧ Aside0 (AB w wk lb lj 62 i f s A kids.length c) ∧ Aside0 (Acc 62 (kids.length : Int) (kids.take j) t) ∧ Aside0 (0 ≤ lj ∧ lj ≤ l - 1))
    case atStart => exact ⟨0, _, _, rfl, rfl, ⟨by omega⟩, HV2, ⟨by rw [← HHD.out]; exact Acc.start _ _⟩, ⟨by have := HL.out; omega, by omega⟩⟩
    case round =>
      clear HV2 HHD
      obtain ⟨j, t, lj, rfl, rfl, HJ, HVJ, HACC, HLJ⟩ := hrel
      rename_i wk _ _ _ _ _ _
      have hszb : w.heap.size < _ := blk_lt HVJ.out.box
      have hn1 := HN.out.2.1
      have hts : t.size ≤ 13000 := HACC.out.len (by have := nodesAll_take_le kids j; have := HN.out.2.2; omega) (by omega) (by omega)
      by_cases hj : j < kids.length
      · obtain ⟨y, hy⟩ : ∃ y, kids[j]? = some y := ⟨_, List.getElem?_eq_getElem hj⟩
        have hbr := HT0.out.2.1.grown HVJ.out.gr HT0.out.2.1.size (by rintro q hq; injection hq with hq; have := HT0.out.2.2; omega)
        obtain ⟨ad, B6, d6, hA, g0, g1, g2, g3, g4, l6, q6⟩ := PAll.at_T25 HK.out (j : Int) (by omega) (by omega)
        have hry : PAll.rd_T25 kids (j : Int) = y := by unfold Go.Proofs.YtkogipaaioibaaaGreatDoor.PAll.rd_T25; rw [Int.toNat_natCast, List.getD_eq_getElem?_getD, hy]; rfl
        rw [hry] at g0 g1 g2 g3 g4 l6 q6
        rw [Int.toNat_natCast] at g0 g1 g2 g3 g4
        have h0 := pw_cell_below hbr g0
        have h1 := pw_cell_below hbr g1
        have h2 := pw_cell_below hbr g2
        have h3 := pw_cell_below hbr g3
        have h4 := pw_cell_below hbr g4
        subst hA
        have HY := Aside0.mk hy
        have HQ := Aside0.mk (And.intro l6 q6)
        have HBR := Aside0.mk hbr
        clear g0 g1 g2 g3 g4 l6 q6 hry hy hbr
        have hal := HVJ.out.alloc (.cells #[.int .i64 y.f0, .int .i64 y.f1, .int .u64 y.f2, .string y.f3, .slice B6 y.f4.length d6] 25)
        have HX0 := HIH.out y B6 d6 lb lj (d + 1) w0 _ HLJ.out.1 (by have := HLJ.out.2; have := HL.out; omega) (by omega) (by have := HN.out.1; omega) HQ.out.1 (shortAll_at HS.out.1 HY.out) (wfAll_at HS.out.2 HY.out) (by have := nodes_at HY.out; have := HN.out.2.2; omega) HQ.out.2 (below_alloc HBR.out (.cells #[.int .i64 y.f0, .int .i64 y.f1, .int .u64 y.f2, .string y.f3, .slice B6 y.f4.length d6] 25)) HT0.out.2.2 HT0.out.1 hal.left
        unfold valR at HX0
        have HX := Aside0.mk HX0
        have HAL := Aside0.mk hal
        clear HX0 hal
        go_wp2_with fail
        refine (HX.out).mono ?_
        rintro e w3 ⟨u, r, l', rfl, hl', hr, hg⟩
        have hv3 : AB w w3 lb l' 62 i f s (some ad) kids.length c :=
          ⟨(hg.block w.heap.size (by simp; omega) (by simp; omega)).trans HAL.out.box, hl', grown_trans' HAL.out.gr hg⟩
        have HV3 := Aside0.mk hv3
        have HR3 := Aside0.mk hr
        clear hl' hr hg hv3 HX HAL
        cases r
        case false =>
          go_wp2_with fail
          go_ret2
          exact WrR.mk HV3.out (Below.refl _ _) (by simp)
        case true =>
          obtain ⟨hwu, hl0', hl1'⟩ := HR3.out rfl
          have HWU := Aside0.mk hwu
          have HLU := Aside0.mk (And.intro hl0' hl1')
          have hus : u.size ≤ 13000 := by
            have h1 := wire_len (nodes y) y (Nat.le_refl _) _ hwu
            rw [bytesOf_length] at h1
            have := nodes_at HY.out
            have := HN.out.2.2
            omega
          clear hwu hl0' hl1' HR3
          go_wp2_with fail
          go_roundg (kids.length - (j + 1))
          case measure => have := HJ.out.2; omega
          case rel => exact ⟨j + 1, _, l', rfl, by go_num, ⟨by omega⟩, HV3, ⟨HACC.out.next HY.out HWU.out⟩, ⟨HLU.out.1, by have := HLU.out.2; have := HLJ.out.2; omega⟩⟩
      · have hje : j = kids.length := by have := HJ.out.1; omega
        subst hje
        go_wp2_with fail
        go_ret2
        have h1 := HACC.out
        rw [List.take_length] at h1
        obtain ⟨a, h2, h3⟩ := h1
        exact WrR.mk HVJ.out (Below.refl _ _) (fun _ => ⟨wire_agg _ (Or.inr (Or.inr (Or.inr (Or.inr rfl)))) ⟨by decide, by decide⟩ hn (fun h => absurd h (by decide)) (fun h => absurd h (by decide)) (by unfold aggN; simp) h2 h3, HLJ.out.1, by have := HLJ.out.2; omega⟩)
end Go.Proofs.YtkogipaaioibaaaGreatDoor

namespace Go.Proofs.YtkogipaaioibaaaGreatDoor
set_option linter.unusedVariables false
set_option linter.unusedSimpArgs false
open Go.RowKit Go.Proofs.YtkogipaaioibaaaGreatDoorW.PrintWords
set_option maxHeartbeats 4000000 in
set_option maxRecDepth 100000 in
theorem wr_37o (i f : Int) (s : ByteArray) (kids : List RP) (A : Option Addr) (c lb : Nat) (l d : Int) (w : World) (hl0 : 1 ≤ l) (hl1 : l ≤ 2000) (hd0 : 0 ≤ d) (hd1 : d ≤ 20) (hn : kids.length ≤ 1000) (hs : s.size ≤ 200) (hb : w.heap[lb]? = some (.cells #[.int .i64 l] 3 (0, 0))) (hp : kids.length % 2 = 1) :
    Calls Tryz.prog 27 #[.agg #[.int .i64 37, .int .i64 i, .int .u64 f, .string s, .slice A kids.length c], .int .i64 d, .pointer (some ⟨lb, 0, none⟩)] w fun e w' => WrR ⟨37, i, f, s, kids⟩ w lb l e w' := by
  have hlt := blk_lt hb
  have c0 : w.cell? ⟨lb, 0, none⟩ = some (.int .i64 l) := blk_cell hb 0
  have f0 : w.frozen? ⟨lb, 0, none⟩ = false := blk_frozen hb 0
  have HVB := Lib.hid (wr_begin (k := 37) (i := i) (f := f) (s := s) (A := A) (n := kids.length) (c := c) hb)
  have HBA := Lib.hid (fun W => bare_any (37) i f s A kids.length c W (by omega))
  have HL := Lib.hid (And.intro hl0 hl1)
  have hp2 : (kids.length : Int) % 2 = 1 := by omega
  clear hb
  go_enter Tryz.func27, Tryz.ntmps27
  go_wp2_with fail
  refine (HBA.out _).mono ?_
  rintro e w1 ⟨b, rfl, hbel⟩
  have hv := HVB.out.below hbel
  have HV := Lib.hid hv
  have hsz : w.heap.size < w1.heap.size := blk_lt hv.box
  obtain ⟨b0, b1, b2, b3, b4⟩ := box5 hv.box
  have hcv := fun (W : World) => cv_lit W (W.alloc (.cells #[.int .u8 37] 5)) (37) (Below.refl _ _)
  have hs1 : (strOfNums [37]).size = 1 := rfl
  clear hv hbel HVB HBA c0 f0
  cases b
  · go_wp2_with fail
    go_ret2
    exact WrR.mk HV.out (Below.refl _ _) (by simp)
  · go_wp2_with fail
    go_ret2
    exact WrR.mk HV.out (by repeat (first | (with_reducible exact Below.refl _ _) | (with_reducible apply below_alloc) | (with_reducible apply pw_below_drewN) | (with_reducible apply below_drew))) (by simp)
set_option maxHeartbeats 4000000 in
set_option maxRecDepth 100000 in
theorem wr_124o (i f : Int) (s : ByteArray) (kids : List RP) (A : Option Addr) (c lb : Nat) (l d : Int) (w : World) (hl0 : 1 ≤ l) (hl1 : l ≤ 2000) (hd0 : 0 ≤ d) (hd1 : d ≤ 20) (hn : kids.length ≤ 1000) (hs : s.size ≤ 200) (hb : w.heap[lb]? = some (.cells #[.int .i64 l] 3 (0, 0))) (hp : kids.length % 2 = 0) :
    Calls Tryz.prog 27 #[.agg #[.int .i64 124, .int .i64 i, .int .u64 f, .string s, .slice A kids.length c], .int .i64 d, .pointer (some ⟨lb, 0, none⟩)] w fun e w' => WrR ⟨124, i, f, s, kids⟩ w lb l e w' := by
  have hlt := blk_lt hb
  have c0 : w.cell? ⟨lb, 0, none⟩ = some (.int .i64 l) := blk_cell hb 0
  have f0 : w.frozen? ⟨lb, 0, none⟩ = false := blk_frozen hb 0
  have HVB := Lib.hid (wr_begin (k := 124) (i := i) (f := f) (s := s) (A := A) (n := kids.length) (c := c) hb)
  have HBA := Lib.hid (fun W => bare_any (124) i f s A kids.length c W (by omega))
  have HL := Lib.hid (And.intro hl0 hl1)
  have hp2 : (kids.length : Int) % 2 = 0 := by omega
  clear hb
  go_enter Tryz.func27, Tryz.ntmps27
  go_wp2_with fail
  refine (HBA.out _).mono ?_
  rintro e w1 ⟨b, rfl, hbel⟩
  have hv := HVB.out.below hbel
  have HV := Lib.hid hv
  have hsz : w.heap.size < w1.heap.size := blk_lt hv.box
  obtain ⟨b0, b1, b2, b3, b4⟩ := box5 hv.box
  have hcv := fun (W : World) => cv_lit W (W.alloc (.cells #[.int .u8 124] 5)) (124) (Below.refl _ _)
  have hs1 : (strOfNums [124]).size = 1 := rfl
  clear hv hbel HVB HBA c0 f0
  cases b
  · go_wp2_with fail
    go_ret2
    exact WrR.mk HV.out (Below.refl _ _) (by simp)
  · go_wp2_with fail
    go_ret2
    exact WrR.mk HV.out (by repeat (first | (with_reducible exact Below.refl _ _) | (with_reducible apply below_alloc) | (with_reducible apply pw_below_drewN) | (with_reducible apply below_drew))) (by simp)
set_option maxHeartbeats 4000000 in
set_option maxRecDepth 100000 in
theorem wr_other (k i f : Int) (s : ByteArray) (kids : List RP) (A : Option Addr) (c lb : Nat) (l d : Int) (w : World) (hl0 : 1 ≤ l) (hl1 : l ≤ 2000) (hd0 : 0 ≤ d) (hd1 : d ≤ 20) (hn : kids.length ≤ 1000) (hs : s.size ≤ 200) (hb : w.heap[lb]? = some (.cells #[.int .i64 l] 3 (0, 0))) (h43 : (k == 43) = false) (h45 : (k == 45) = false) (h36 : (k == 36) = false) (h33 : (k == 33) = false) (h61 : (k == 61) = false) (h58 : (k == 58) = false) (h95 : (k == 95) = false) (h44 : (k == 44) = false) (h35 : (k == 35) = false) (h40 : (k == 40) = false) (h42 : (k == 42) = false) (h37 : (k == 37) = false) (h126 : (k == 126) = false) (h124 : (k == 124) = false) (h62 : (k == 62) = false) :
    Calls Tryz.prog 27 #[.agg #[.int .i64 k, .int .i64 i, .int .u64 f, .string s, .slice A kids.length c], .int .i64 d, .pointer (some ⟨lb, 0, none⟩)] w fun e w' => WrR ⟨k, i, f, s, kids⟩ w lb l e w' := by
  have hlt := blk_lt hb
  have c0 : w.cell? ⟨lb, 0, none⟩ = some (.int .i64 l) := blk_cell hb 0
  have f0 : w.frozen? ⟨lb, 0, none⟩ = false := blk_frozen hb 0
  have HVB := Lib.hid (wr_begin (k := k) (i := i) (f := f) (s := s) (A := A) (n := kids.length) (c := c) hb)
  have HBA := Lib.hid (fun W => bare_any (k) i f s A kids.length c W (by omega))
  have HL := Lib.hid (And.intro hl0 hl1)
  clear hb
  go_enter Tryz.func27, Tryz.ntmps27
  go_wp2_with fail
  refine (HBA.out _).mono ?_
  rintro e w1 ⟨b, rfl, hbel⟩
  have hv := HVB.out.below hbel
  have HV := Lib.hid hv
  have hsz : w.heap.size < w1.heap.size := blk_lt hv.box
  obtain ⟨b0, b1, b2, b3, b4⟩ := box5 hv.box
  have hcv := fun (W : World) (a : Int) => cv_lit W (W.alloc (.cells #[.int .u8 a] 5)) a (Below.refl _ _)
  have hs1 : (strOfNums [IntKind.u8.wrap k]).size = 1 := rfl
  clear hv hbel HVB HBA c0 f0
  cases b
  · go_wp2_with fail
    go_ret2
    exact WrR.mk HV.out (Below.refl _ _) (by simp)
  · go_wp2_with fail
    go_ret2
    exact WrR.mk HV.out (by repeat (first | (with_reducible exact Below.refl _ _) | (with_reducible apply below_alloc) | (with_reducible apply pw_below_drewN) | (with_reducible apply below_drew))) (by simp)
set_option maxHeartbeats 4000000 in
set_option maxRecDepth 100000 in
theorem wr_deep (k i f : Int) (s : ByteArray) (kids : List RP) (A : Option Addr) (c lb : Nat) (l : Int) (hl0 : 0 ≤ l) (hl1 : l ≤ 2000) (w : World) (hb : w.heap[lb]? = some (.cells #[.int .i64 l] 3 (0, 0))) :
    Calls Tryz.prog 27 #[.agg #[.int .i64 k, .int .i64 i, .int .u64 f, .string s, .slice A kids.length c], .int .i64 21, .pointer (some ⟨lb, 0, none⟩)] w fun e w' => WrR ⟨k, i, f, s, kids⟩ w lb l e w' := by
  have hlt := blk_lt hb
  have c0 : w.cell? ⟨lb, 0, none⟩ = some (.int .i64 l) := blk_cell hb 0
  have f0 : w.frozen? ⟨lb, 0, none⟩ = false := blk_frozen hb 0
  have HVB := Lib.hid (wr_begin (k := k) (i := i) (f := f) (s := s) (A := A) (n := kids.length) (c := c) hb)
  clear hb
  go_enter Tryz.func27, Tryz.ntmps27
  go_wp2_with fail
  go_ret2
  exact WrR.mk HVB.out (Below.refl _ _) (by simp)
set_option maxHeartbeats 4000000 in
set_option maxRecDepth 100000 in
theorem wr_none (k i f : Int) (s : ByteArray) (kids : List RP) (A : Option Addr) (c lb : Nat) (d : Int) (hd0 : 0 ≤ d) (hd1 : d ≤ 20) (w : World) (hb : w.heap[lb]? = some (.cells #[.int .i64 0] 3 (0, 0))) :
    Calls Tryz.prog 27 #[.agg #[.int .i64 k, .int .i64 i, .int .u64 f, .string s, .slice A kids.length c], .int .i64 d, .pointer (some ⟨lb, 0, none⟩)] w fun e w' => WrR ⟨k, i, f, s, kids⟩ w lb 0 e w' := by
  have hlt := blk_lt hb
  have c0 : w.cell? ⟨lb, 0, none⟩ = some (.int .i64 0) := blk_cell hb 0
  have f0 : w.frozen? ⟨lb, 0, none⟩ = false := blk_frozen hb 0
  have HVB := Lib.hid (wr_begin (k := k) (i := i) (f := f) (s := s) (A := A) (n := kids.length) (c := c) hb)
  clear hb
  go_enter Tryz.func27, Tryz.ntmps27
  go_wp2_with fail
  go_ret2
  exact WrR.mk HVB.out (Below.refl _ _) (by simp)
end Go.Proofs.YtkogipaaioibaaaGreatDoor

namespace Go.Proofs.YtkogipaaioibaaaGreatDoor
set_option linter.unusedVariables false
set_option linter.unusedSimpArgs false
open Go.RowKit Go.Proofs.YtkogipaaioibaaaGreatDoorW.PrintWords
theorem write_any : ∀ N : Nat, WrSaid N := by
  intro N
  induction N with
  | zero =>
    intro x A c lb l d w0 w hl0 hl1 hd0 hdN hc hs hwf hn hk hw h0 ht hb
    obtain rfl : d = 21 := by omega
    obtain ⟨k, i, f, s, kids⟩ := x
    exact wr_deep k i f s kids A c lb l hl0 hl1 w hb
  | succ N ih =>
    intro x A c lb l d w0 w hl0 hl1 hd0 hdN hc hs hwf hn hk hw h0 ht hb
    obtain ⟨k, i, f, s, kids⟩ := x
    have hd1 : d ≤ 20 := by omega
    have hdN' : d + N = 20 := by omega
    simp only [short] at hs
    simp only [wfR] at hwf
    simp only [nodes] at hn
    obtain ⟨hs, hsh⟩ := hs
    obtain ⟨⟨hk0, hk1, hi0, hi1, hf0, hf1⟩, hwa⟩ := hwf
    have hnn : nodesAll kids ≤ 59 := by omega
    have hn2 : kids.length ≤ 1000 := by have := nodesAll_len kids; omega
    by_cases hz : l = 0
    · subst hz
      exact wr_none k i f s kids A c lb d hd0 hd1 w hb
    · have hl : 1 ≤ l := by omega
      by_cases h43 : k = 43
      · subst h43
        exact wr_43 i f s kids A c lb l d w hl hl1 hd0 hd1 hn2 hs hb
      by_cases h45 : k = 45
      · subst h45
        exact wr_45 i f s kids A c lb l d w hl hl1 hd0 hd1 hn2 hs hb
      by_cases h40 : k = 40
      · subst h40
        exact wr_40 i f s kids A c lb l d w hl hl1 hd0 hd1 hn2 hs hb
      by_cases h95 : k = 95
      · subst h95
        exact wr_95 i f s kids A c lb l d w hl hl1 hd0 hd1 hn2 hs hb
      by_cases h35 : k = 35
      · subst h35
        exact wr_35 i f s kids A c lb l d w hl hl1 hd0 hd1 hn2 hs hb
      by_cases h58 : k = 58
      · subst h58
        exact wr_58 i f s kids A c lb l d w hl hl1 hd0 hd1 hn2 hs hb hi0 hi1 w0 ht hw h0
      by_cases h44 : k = 44
      · subst h44
        exact wr_44 i f s kids A c lb l d w hl hl1 hd0 hd1 hn2 hs hb hf0 hf1 w0 ht hw h0
      by_cases h36 : k = 36
      · subst h36
        by_cases hi : i = -1
        · subst hi
          exact wr_36n f s kids A c lb l d w hl hl1 hd0 hd1 hn2 hs hb
        · exact wr_36b i f s kids A c lb l d w hl hl1 hd0 hd1 hn2 hs hb hi w0 ht hw h0
      by_cases h33 : k = 33
      · subst h33
        exact wr_33b i f s kids A c lb l d w hl hl1 hd0 hd1 hn2 hs hb w0 ht hw h0
      by_cases h61 : k = 61
      · subst h61
        exact wr_61b i f s kids A c lb l d w hl hl1 hd0 hd1 hn2 hs hb w0 ht hw h0
      by_cases h42 : k = 42
      · subst h42
        by_cases hi : i = -1
        · subst hi
          exact wr_42n f s kids A c lb l d w hl hl1 hd0 hd1 hn2 hs hb
        · exact wr_42 i f s kids A c lb l d w hl hl1 hd0 hd1 hn2 hs hb hi N ih hdN' hc hnn hsh hwa w0 ht hw h0 hk
      by_cases h37 : k = 37
      · subst h37
        by_cases hp : kids.length % 2 = 0
        · exact wr_37 i f s kids A c lb l d w hl hl1 hd0 hd1 hn2 hs hb N ih hdN' hc hnn hsh hwa w0 ht hw h0 hk hp
        · exact wr_37o i f s kids A c lb l d w hl hl1 hd0 hd1 hn2 hs hb (by omega)
      by_cases h124 : k = 124
      · subst h124
        by_cases hp : kids.length % 2 = 1
        · exact wr_124 i f s kids A c lb l d w hl hl1 hd0 hd1 hn2 hs hb N ih hdN' hc hnn hsh hwa w0 ht hw h0 hk hp
        · exact wr_124o i f s kids A c lb l d w hl hl1 hd0 hd1 hn2 hs hb (by omega)
      by_cases h126 : k = 126
      · subst h126
        exact wr_126 i f s kids A c lb l d w hl hl1 hd0 hd1 hn2 hs hb N ih hdN' hc hnn hsh hwa w0 ht hw h0 hk
      by_cases h62 : k = 62
      · subst h62
        exact wr_62 i f s kids A c lb l d w hl hl1 hd0 hd1 hn2 hs hb N ih hdN' hc hnn hsh hwa w0 ht hw h0 hk
      exact wr_other k i f s kids A c lb l d w hl hl1 hd0 hd1 hn2 hs hb (by simp [h43]) (by simp [h45]) (by simp [h36]) (by simp [h33]) (by simp [h61]) (by simp [h58]) (by simp [h95]) (by simp [h44]) (by simp [h35]) (by simp [h40]) (by simp [h42]) (by simp [h37]) (by simp [h126]) (by simp [h124]) (by simp [h62])
/-- What spec.Write tells. -/
def WtR (x : RP) (w : World) (e : Ending) (w' : World) : Prop := ∃ (t : ByteArray) (o : Int), e = .returned (.tuple #[.string t, .int .i64 o]) ∧ (o = 1 → wire x (bytesOf t)) ∧ Below w.heap.size w w'
set_option maxHeartbeats 2000000 in
set_option maxRecDepth 100000 in
theorem Write_any (x : RP) (A : Option Addr) (c : Nat) (w0 w : World) (hc : x.f4.length ≤ c) (hs : short x) (hwf : wfR x) (hn : nodes x ≤ 60) (hk : Kd.C kR w0 A x.f4.length x.f4) (hw : Below w0.heap.size w0 w) (ht : Tb w0) :
    Calls Tryz.prog 16 #[valR x A c] w fun e w' => WtR x w e w' := by
  unfold valR
  have hnew : ∀ o o2, ((w.alloc o).alloc o2).heap[w.heap.size + 1]? = some o2 := fun o o2 => by
    have h := heap_alloc_new (w.alloc o) o2
    rw [World.size_alloc] at h
    exact h
  have HA := Lib.hid (write_any 21 x A c (w.heap.size + 1) 2000 0 w0 ((w.alloc (.cells #[.int .i64 x.f0, .int .i64 x.f1, .int .u64 x.f2, .string x.f3, .slice A x.f4.length c] 25)).alloc (.cells #[.int .i64 2000] 3)) (by decide) (by decide) (by decide) (by decide) hc hs hwf hn hk (below_alloc (below_alloc hw _) _) (by have := hw.size; omega) ht (hnew _ _))
  unfold valR at HA
  clear hk hc hw hnew ht hs hwf
  go_enter Tryz.func16, Tryz.ntmps16
  go_wp2_with fail
  refine HA.out.mono ?_
  rintro e w2 ⟨t, ok, l', rfl, hl', hr, hg⟩
  have HB : Hid (Below w.heap.size w w2) := Lib.hid ((below_alloc (below_alloc (Below.refl _ _) _) _).grown hg (by simp; omega) (by rintro q hq; injection hq with hq; omega))
  have HR := Lib.hid hr
  clear hg hl' HA
  cases ok
  · clear hr
    go_wp2_with fail
    go_ret2
    exact ⟨_, 2, rfl, by simp, HB.out⟩
  · have hts : t.size ≤ 12600 := by
      have h1 := wire_len (nodes x) x (Nat.le_refl _) _ (hr rfl).1
      rw [bytesOf_length] at h1
      omega
    clear hr
    go_wp2_with fail
    go_ret2
    exact ⟨t, 1, rfl, fun _ => (HR.out (by trivial)).1, HB.out⟩
/-- What lettered tells. -/
def LtR (x : RP) (w : World) (e : Ending) (w' : World) : Prop := ∃ (t : ByteArray) (b : Bool), e = .returned (.tuple #[.string t, .bool b]) ∧ (b = true → wire x (bytesOf t) ∧ nodes x ≤ 60 ∧ short x) ∧ Below w.heap.size w w'
set_option maxHeartbeats 2000000 in
set_option maxRecDepth 100000 in
theorem lettered_any (x : RP) (A : Option Addr) (c : Nat) (w0 w : World) (hc : x.f4.length ≤ c) (hwf : wfR x) (hk : Kd.C kR w0 A x.f4.length x.f4) (hw : Below w0.heap.size w0 w) (ht : Tb w0) :
    Calls Tryz.prog 7 #[valR x A c] w fun e w' => LtR x w e w' := by
  have HFW := Lib.hid (fun w hw => few_any x A c w0 w hc hk hw)
  have HWR := Lib.hid (fun w hs hn hw => Write_any x A c w0 w hc hs hwf hn hk hw ht)
  unfold valR at HFW HWR
  unfold valR
  have HW := Lib.hid hw
  clear hk hc hw ht hwf
  go_enter Tryz.func7, Tryz.ntmps7
  go_wp2_with fail
  refine (HFW.out _ (below_alloc HW.out _)).mono ?_
  rintro e w1 ⟨r, rfl, hr, hb1⟩
  have h1 : Below w.heap.size w w1 := (below_alloc (Below.refl _ _) _).trans (hb1.mono (by simp))
  have HB := Lib.hid h1
  have HR := Lib.hid hr
  have hbx : w1.heap[w.heap.size]? = _ := (hb1.block _ (by simp)).trans (heap_alloc_new w _)
  obtain ⟨b0, b1, b2, b3, b4⟩ := box5 hbx
  clear hr hb1 h1 hbx HFW
  cases r
  · go_wp2_with fail
    go_ret2
    exact ⟨_, false, rfl, by simp, HB.out⟩
  · go_wp2_with fail
    refine (HWR.out _ (HR.out (by trivial)).2 (HR.out (by trivial)).1 (HW.out.trans (HB.out.mono HW.out.size))).mono ?_
    rintro e w2 ⟨t, o, rfl, ho, hb2⟩
    have HO := Lib.hid ho
    have HB2 := Lib.hid (HB.out.trans (hb2.mono HB.out.size))
    clear ho hb2
    go_wp2_with fail
    go_ret2
    exact ⟨t, _, rfl, fun h => ⟨HO.out (by simpa using h), HR.out (by trivial)⟩, HB2.out⟩
end Go.Proofs.YtkogipaaioibaaaGreatDoor
