/- spec.Made: way 1. (seat r2.D; printed by gen_cs.py) spec.Made: way 2. (seat r2.D; printed by gen_cs.py) spec.Made: way 3. (seat r2.D; printed by gen_cs.py) -/
import Derived.Test.YtnbhledkdkchlaaDoorGc
import Derived.RowKit3
import Derived.Deep.RegionLaw
namespace Go.Proofs.YtnbhledkdkchlaaDoor
set_option linter.unusedVariables false
set_option linter.unusedSimpArgs false
open Go.RowKit Go.Proofs.YtnbhledkdkchlaaDoorW.PrintWords

set_option maxHeartbeats 3000000 in
set_option maxRecDepth 100000 in
theorem sm1_any (A1 A2 A3 : Option Addr) (c1 c2 c3 : Nat) (texts : List ByteArray) (nums : List Int) (bodies : List ByteArray) (w : World) (hl : texts.length ≤ 4)
    (hC1 : Kd.C Kd.string w A1 texts.length texts) (hC2 : Kd.C (Kd.int .i64) w A2 nums.length nums) (hC3 : Kd.C Kd.string w A3 bodies.length bodies) (hln : nums.length ≤ 4) (hlb : bodies.length ≤ 8)
    (hz0 : (tx texts 0).size ≤ 100) (hz1 : (tx texts 1).size ≤ 100) (hzb : (tx bodies 0).size ≤ 100) :
    Calls Tryd.prog 5 #[.int .i64 1, .slice A1 texts.length c1, .slice A2 nums.length c2, .slice A3 bodies.length c3] w fun e w' => SmR w ⟨#[82, 69, 71, 73, 83, 84, 69, 82]⟩ (if (tx texts 1).size = 0 then [tx texts 0] else [tx texts 0, tx texts 1]) ⟨#[]⟩ false (2 ≤ texts.length ∧ 0 ≤ nums.headD 0) e w' := by
  have hmf : ∀ (fn : Fn) (first cap : Array Value) (w : World), (Instr.makeFunc fn first cap).run Tryd.prog w = .ok (.func fn first cap) w := fun _ _ _ _ => rfl
  have HT0 := Aside0.mk (fun (wi : World) (h : SM w wi A1 texts.length c1) => txt9_any 0 w.heap.size A1 c1 texts wi (by decide) h.b5 (Kd.C_below hC1 h.bel) hl)
  have HT1 := Aside0.mk (fun (wi : World) (h : SM w wi A1 texts.length c1) => txt9_any 1 w.heap.size A1 c1 texts wi (by decide) h.b5 (Kd.C_below hC1 h.bel) hl)
  have HS := Aside0.mk (SM.start w A1 texts.length c1)
  generalize tx texts 0 = T0 at *
  generalize tx texts 1 = T1 at *
  generalize texts.length = tl at *
  obtain ⟨num, hnum⟩ : ∃ num, nums.headD 0 = num := ⟨_, rfl⟩
  obtain ⟨body, hbody⟩ : ∃ body, tx bodies 0 = body := ⟨_, rfl⟩
  rw [hnum]
  (try rw [hbody])
  rw [hbody] at hzb
  skip
  obtain ⟨OKP, hok⟩ : ∃ OKP, (2 ≤ tl ∧ 0 ≤ num) = OKP := ⟨_, rfl⟩
  rw [hok]
  have HOKP := Aside0.mk hok
  clear hok
  obtain ⟨PS, hPS⟩ : ∃ PS, (if T1.size = 0 then [T0] else [T0, T1]) = PS := ⟨_, rfl⟩
  rw [hPS]
  have HPS := Aside0.mk hPS
  clear hPS
  have HNUM := Aside0.mk hnum
  have HBODY := Aside0.mk hbody
  have HC2 := Aside0.mk hC2
  have HC3 := Aside0.mk hC3
  clear hC1 hl hnum hbody hC2 hC3
  go_enter Tryd.func5, Tryd.ntmps5
  go_upto_if 20 with (fail)
  go_cut [11] (fun v11 wc => v11 = .int .i64 num ∧ wc = ((w.alloc (.cells #[.slice A1 tl c1] 22)).alloc (.cells #[.string ⟨#[]⟩, .slice none 0 0, .string ⟨#[]⟩, .bool false] 27)))
  case first =>
    cases nums with
    | nil =>
      have h0 : (0 : Int) = num := HNUM.out
      subst h0
      go_wp2_with fail
      go_meet
      case rel => exact ⟨rfl, rfl⟩
    | cons n0 nums =>
      have h0 : n0 = num := HNUM.out
      subst h0
      obtain ⟨ad2, hA2, hc2x⟩ := at_enc HC2.out (j := 0) (x := n0) rfl
      subst hA2
      have hc2 : w.cell? ad2 = some (.int .i64 n0) := by simpa [Addr.add] using hc2x
      have hlt2 : ad2.block < w.heap.size := World.block_lt_of_cell? _ _ hc2
      clear hc2x
      have hgt : 0 < (n0 :: nums).length := by simp
      go_wp2_with fail
      go_meet
      case rel => exact ⟨rfl, rfl⟩
  case rest =>
    obtain ⟨rfl, rfl⟩ := hcut
    go_upto_if 26 with (fail)
    go_cut [12] (fun v12 wc => v12 = .string body ∧ wc = ((w.alloc (.cells #[.slice A1 tl c1] 22)).alloc (.cells #[.string ⟨#[]⟩, .slice none 0 0, .string ⟨#[]⟩, .bool false] 27)))
    case first =>
      cases bodies with
      | nil =>
        have h0 : (⟨#[]⟩ : ByteArray) = body := HBODY.out
        subst h0
        go_wp2_with fail
        go_meet
        case rel => exact ⟨rfl, rfl⟩
      | cons b0 bodies =>
        have h0 : b0 = body := HBODY.out
        subst h0
        obtain ⟨ad3, hA3, hc3x⟩ := at_enc HC3.out (j := 0) (x := b0) rfl
        subst hA3
        have hc3 : w.cell? ad3 = some (.string b0) := by simpa [Addr.add] using hc3x
        have hlt3 : ad3.block < w.heap.size := World.block_lt_of_cell? _ _ hc3
        clear hc3x
        have hgt : 0 < (b0 :: bodies).length := by simp
        go_wp2_with fail
        go_meet
        case rel => exact ⟨rfl, rfl⟩
    case rest =>
      obtain ⟨rfl, rfl⟩ := hcut
      generalize nums.length = ln at *
      generalize bodies.length = lb at *
      clear HC2 HC3 HNUM HBODY
      go_wp2_with fail
      by_cases htl : tl < 2
      · have htli : (tl : Int) < 2 := by omega
        go_quiet (fail)
        refine post_gen (Q := Exit.then _ _) (F := fun wz => SM w wz A1 tl c1) (HS.out.below (by repeat (first | (with_reducible exact Below.refl _ _) | (with_reducible apply below_drew) | (with_reducible apply pw_below_drewN) | (with_reducible apply below_alloc)))) ?_
        intro wq hQ
        have HQ := Aside0.mk hQ
        clear hQ
        obtain ⟨q0, q1, q2, q3⟩ := And.intro (blk_cell HQ.out.b8 0) (And.intro (blk_cell HQ.out.b8 1) (And.intro (blk_cell HQ.out.b8 2) (blk_cell HQ.out.b8 3)))
        have s0 := blk_frozen HQ.out.b8 0
        have s1 := blk_frozen HQ.out.b8 1
        have s2 := blk_frozen HQ.out.b8 2
        have s3 := blk_frozen HQ.out.b8 3
        have hltq := blk_lt HQ.out.b8
        have hl2 : w.heap.size < wq.heap.size := by omega
        have hl3 : w.heap.size ≤ wq.heap.size := by omega
        have hl4 : w.heap.size < wq.heap.size + 1 := by omega
        have hn1 : ¬ (w.heap.size = wq.heap.size) := by omega
        have hn2 : ¬ (wq.heap.size = w.heap.size) := by omega
        have hn3 : ¬ (w.heap.size + 1 = wq.heap.size) := by omega
        have hn4 : ¬ (wq.heap.size = w.heap.size + 1) := by omega
        have hn5 : ¬ (w.heap.size = wq.heap.size + 1) := by omega
        have hn6 : ¬ (wq.heap.size + 1 = w.heap.size) := by omega
        have hfz := fun (wx : World) (c : Array Value) (t : TypeId) (k : Nat) => frozen?_alloc_cells wx c t ⟨w.heap.size + 1, k, none⟩
        go_wp2_with fail
        refine bodyPost_ret (results_ct rfl _ _ (w.heap.size + 1) 27 #[.string ⟨#[]⟩, .slice none 0 0, .string ⟨#[]⟩, .bool false] (0, 0) _ rfl (SM.fin HQ.out).1 Tryd.underlying27 rfl (by kernel_rfl)) rfl ?_
        exact ⟨(SM.fin HQ.out).2, .inl rfl⟩
      · have htli : ¬ (tl : Int) < 2 := by omega
        by_cases hneg : num < 0
        · have hnegi : num < 0 := by omega
          go_quiet (fail)
          refine post_gen (Q := Exit.then _ _) (F := fun wz => SM w wz A1 tl c1) (HS.out.below (by repeat (first | (with_reducible exact Below.refl _ _) | (with_reducible apply below_drew) | (with_reducible apply pw_below_drewN) | (with_reducible apply below_alloc)))) ?_
          intro wq hQ
          have HQ := Aside0.mk hQ
          clear hQ
          obtain ⟨q0, q1, q2, q3⟩ := And.intro (blk_cell HQ.out.b8 0) (And.intro (blk_cell HQ.out.b8 1) (And.intro (blk_cell HQ.out.b8 2) (blk_cell HQ.out.b8 3)))
          have s0 := blk_frozen HQ.out.b8 0
          have s1 := blk_frozen HQ.out.b8 1
          have s2 := blk_frozen HQ.out.b8 2
          have s3 := blk_frozen HQ.out.b8 3
          have hltq := blk_lt HQ.out.b8
          have hl2 : w.heap.size < wq.heap.size := by omega
          have hl3 : w.heap.size ≤ wq.heap.size := by omega
          have hl4 : w.heap.size < wq.heap.size + 1 := by omega
          have hn1 : ¬ (w.heap.size = wq.heap.size) := by omega
          have hn2 : ¬ (wq.heap.size = w.heap.size) := by omega
          have hn3 : ¬ (w.heap.size + 1 = wq.heap.size) := by omega
          have hn4 : ¬ (wq.heap.size = w.heap.size + 1) := by omega
          have hn5 : ¬ (w.heap.size = wq.heap.size + 1) := by omega
          have hn6 : ¬ (wq.heap.size + 1 = w.heap.size) := by omega
          have hfz := fun (wx : World) (c : Array Value) (t : TypeId) (k : Nat) => frozen?_alloc_cells wx c t ⟨w.heap.size + 1, k, none⟩
          go_wp2_with fail
          refine bodyPost_ret (results_ct rfl _ _ (w.heap.size + 1) 27 #[.string ⟨#[]⟩, .slice none 0 0, .string ⟨#[]⟩, .bool false] (0, 0) _ rfl (SM.fin HQ.out).1 Tryd.underlying27 rfl (by kernel_rfl)) rfl ?_
          exact ⟨(SM.fin HQ.out).2, .inl rfl⟩
        · have hnegi : ¬ num < 0 := by omega
          go_quiet (fail)
          refine post_gen (Q := Exit.then _ _) (F := fun wz => SM w wz A1 tl c1) (HS.out.below (by repeat (first | (with_reducible exact Below.refl _ _) | (with_reducible apply below_drew) | (with_reducible apply pw_below_drewN) | (with_reducible apply below_alloc)))) ?_
          intro wq hQ
          have HQ := Aside0.mk hQ
          clear hQ
          obtain ⟨q0, q1, q2, q3⟩ := And.intro (blk_cell HQ.out.b8 0) (And.intro (blk_cell HQ.out.b8 1) (And.intro (blk_cell HQ.out.b8 2) (blk_cell HQ.out.b8 3)))
          have s0 := blk_frozen HQ.out.b8 0
          have s1 := blk_frozen HQ.out.b8 1
          have s2 := blk_frozen HQ.out.b8 2
          have s3 := blk_frozen HQ.out.b8 3
          have hltq := blk_lt HQ.out.b8
          have hl2 : w.heap.size < wq.heap.size := by omega
          have hl3 : w.heap.size ≤ wq.heap.size := by omega
          have hl4 : w.heap.size < wq.heap.size + 1 := by omega
          have hn1 : ¬ (w.heap.size = wq.heap.size) := by omega
          have hn2 : ¬ (wq.heap.size = w.heap.size) := by omega
          have hn3 : ¬ (w.heap.size + 1 = wq.heap.size) := by omega
          have hn4 : ¬ (wq.heap.size = w.heap.size + 1) := by omega
          have hn5 : ¬ (w.heap.size = wq.heap.size + 1) := by omega
          have hn6 : ¬ (wq.heap.size + 1 = w.heap.size) := by omega
          have hfz := fun (wx : World) (c : Array Value) (t : TypeId) (k : Nat) => frozen?_alloc_cells wx c t ⟨w.heap.size + 1, k, none⟩
          go_wp2_with fail
          refine (HT0.out _ (HQ.out.below (by repeat (first | (with_reducible exact Below.refl _ _) | (with_reducible apply below_drew) | (with_reducible apply below_alloc))))).mono ?_
          rintro e w8 ⟨rfl, rfl⟩
          go_wp2_with fail
          refine calls_gen (F := fun wz => ∃ A9 n9 c9, SM w wz A1 tl c1 ∧ wz.heap[wq.heap.size + 1]? = some (.cells #[.string ⟨#[82, 69, 71, 73, 83, 84, 69, 82]⟩, .slice A9 n9 c9, .string ⟨#[]⟩, .bool false] 27 (0, 0)) ∧ Kd.string.R 9 wz (wq.heap.size + 2) (fun q => wq.heap.size + 2 ≤ q) (.slice A9 n9 c9) [T0] ∧ Below wq.heap.size wq wz) ⟨some ⟨wq.heap.size + 1 + 1, 0, none⟩, 1, 1, HQ.out.below (by repeat (first | (with_reducible exact Below.refl _ _) | (with_reducible apply below_drew) | (with_reducible apply below_alloc))), (Below.heap_alloc _ _ _ (by simp)).trans (alloc_new_at (by simp)), str_row_at (l := [T0]) (by simp) rfl (by simp) (by simp), (by repeat (first | (with_reducible exact Below.refl _ _) | (with_reducible apply below_drew) | (with_reducible apply below_alloc)))⟩ ?_
          rintro wr ⟨A9, n9, c9, hsm, hb14, hrow, hbr⟩
          have HQ9 := Aside0.mk hsm
          have HB14 := Aside0.mk hb14
          have HROW := Aside0.mk hrow
          have hfar : w.heap.size + 2 ≤ wq.heap.size + 1 := by omega
          have hlt14 := blk_lt hb14
          have hltz := blk_lt hsm.b8
          obtain ⟨r0, r1, r2, r3⟩ := And.intro (blk_cell hb14 0) (And.intro (blk_cell hb14 1) (And.intro (blk_cell hb14 2) (blk_cell hb14 3)))
          have z1 := blk_frozen hb14 1
          clear hb14 hrow hbr q0 q1 q2 q3 s0 s1 s2 s3 hsm
          refine (HT1.out _ HQ9.out).mono ?_
          rintro e w9 ⟨rfl, hw9⟩
          subst hw9
          by_cases hz9 : T1.size = 0
          · have hT1 := ba_empty hz9
            obtain ⟨q0, q1, q2, q3⟩ := And.intro (blk_cell HQ9.out.b8 0) (And.intro (blk_cell HQ9.out.b8 1) (And.intro (blk_cell HQ9.out.b8 2) (blk_cell HQ9.out.b8 3)))
            have s0 := blk_frozen HQ9.out.b8 0
            have s1 := blk_frozen HQ9.out.b8 1
            have s2 := blk_frozen HQ9.out.b8 2
            have s3 := blk_frozen HQ9.out.b8 3
            subst hT1
            go_wp2_with fail
            refine post_gen (Q := bodyPost _ _ _) (F := fun wf => ∃ v1, wf.heap[w.heap.size + 1]? = some (.cells #[.string ⟨#[82, 69, 71, 73, 83, 84, 69, 82]⟩, v1, .string ⟨#[]⟩, .bool false] 27 (0, 0)) ∧ Below w.heap.size w wf ∧ Kd.string.R 9 wf w.heap.size (fun q => w.heap.size ≤ q) v1 [T0]) ⟨_, (SM.fin HQ9.out).1, (SM.fin HQ9.out).2, reg_row (by omega) HROW.out⟩ ?_
            rintro wf ⟨v1, hbx, hbel, hr⟩
            refine bodyPost_ret (results_ct rfl _ _ (w.heap.size + 1) 27 _ (0, 0) _ rfl hbx Tryd.underlying27 rfl (by kernel_rfl)) rfl ?_
            exact ⟨hbel, .inr ⟨(by rw [← HOKP.out]; exact ⟨by omega, by omega⟩), v1, rfl, by rw [← HPS.out]; simpa [hz9] using hr⟩⟩
          · have hT1 : T1.toList.isEmpty = false := by
              cases h : T1.toList with
              | nil =>
                rw [ByteArray.toList_eq] at h
                exact absurd (show T1.data.toList.length = 0 by rw [h]; rfl) hz9
              | cons a l => rfl
            have HRD := Aside0.mk (Kd.R_drew HROW.out)
            have hbs9 : wq.heap.size + 2 ≤ w9.drew.heap.size := hlt14
            have HOK9 := Aside0.mk (fun (q : Nat) (hq : w9.drew.heap.size ≤ q) => show wq.heap.size + 2 ≤ q by omega)
            have HSD := Aside0.mk (HQ9.out.below (below_drew (Below.refl _ _)))
            go_wp2_with fail
            go_region_law (first
              | (refine goes_cl Tryd.func9 (by kernel_rfl) rfl #[.int .i64 (1 : Nat), .pointer (some ⟨w.heap.size, 0, none⟩)] (by rfl) rfl (by rfl) rfl (by simp only [List.map_toArray, List.map_cons, List.map_nil, List.append_toArray, List.cons_append, List.nil_append]; rfl) ?_
                 refine (HT1.out _ HSD.out).mono ?_
                 rintro e w10 ⟨rfl, rfl⟩
                 refine ⟨_, rfl, ?_⟩)
              | (refine Kd.R_append_step (W := w9.drew) (w0 := w9.drew) Kd.string (wq.heap.size + 2) (by rfl) (.tmp 110) (.tmp 113) 22 9 _ 16 rfl Tryd.underlying22 info9' rfl (by show 0 < 1; decide) (by decide) (.slice A9 n9 c9) [T0] T1 [.string T1] (fun q => wq.heap.size + 2 ≤ q) (fun _ => False) (by simp [Act.eval]) (by simp [Act.eval]) rfl (fun _ h => h.elim) HOK9.out HRD.out (Below.refl _ _) hbs9 (by show (1 + 1) * 16 ≤ 140737488355328; decide) ?_; intro v2 w4 hr1 hb1 hg1 hat1; obtain ⟨A3, n3, c3, rfl⟩ : ∃ A3 n3 c3, v2 = .slice A3 n3 c3 := (by obtain ⟨A, c, h⟩ := Kd.R_slice hr1; exact ⟨A, _, c, h⟩); have hb14 : w4.heap[wq.heap.size + 1]? = some (.cells #[.string ⟨#[82, 69, 71, 73, 83, 84, 69, 82]⟩, .slice A9 n9 c9, .string ⟨#[]⟩, .bool false] 27 (0, 0)) := (hb1.block _ (by omega)).trans HB14.out; have t0 := blk_cell hb14 0; have t1 := blk_cell hb14 1; have t2 := blk_cell hb14 2; have t3 := blk_cell hb14 3; have z2 := blk_frozen hb14 1; have HS4 := Aside0.mk (HSD.out.belowB (by omega) hb1); have HR4 := Aside0.mk hr1; have hlt4 := blk_lt hb14; clear hr1 hb1 hg1 hat1 hb14))
            all_goals
              obtain ⟨q0, q1, q2, q3⟩ := And.intro (blk_cell HS4.out.b8 0) (And.intro (blk_cell HS4.out.b8 1) (And.intro (blk_cell HS4.out.b8 2) (blk_cell HS4.out.b8 3)))
              have s0 := blk_frozen HS4.out.b8 0
              have s1 := blk_frozen HS4.out.b8 1
              have s2 := blk_frozen HS4.out.b8 2
              have s3 := blk_frozen HS4.out.b8 3
              have hlt5 := blk_lt HS4.out.b8
              go_wp2_with fail
              refine post_gen (Q := bodyPost _ _ _) (F := fun wf => ∃ v1, wf.heap[w.heap.size + 1]? = some (.cells #[.string ⟨#[82, 69, 71, 73, 83, 84, 69, 82]⟩, v1, .string ⟨#[]⟩, .bool false] 27 (0, 0)) ∧ Below w.heap.size w wf ∧ Kd.string.R 9 wf w.heap.size (fun q => w.heap.size ≤ q) v1 [T0, T1]) ⟨_, (SM.fin (SM.far HS4.out hfar)).1, (SM.fin (SM.far HS4.out hfar)).2, reg_row (by omega) (Kd.R_far HR4.out (fun q hq => by show q ≠ wq.heap.size + 1; omega) _)⟩ ?_
              rintro wf ⟨v1, hbx, hbel, hr⟩
              refine bodyPost_ret (results_ct rfl _ _ (w.heap.size + 1) 27 _ (0, 0) _ rfl hbx Tryd.underlying27 rfl (by kernel_rfl)) rfl ?_
              exact ⟨hbel, .inr ⟨(by rw [← HOKP.out]; exact ⟨by omega, by omega⟩), v1, rfl, by rw [← HPS.out]; simpa [hz9] using hr⟩⟩
end Go.Proofs.YtnbhledkdkchlaaDoor

namespace Go.Proofs.YtnbhledkdkchlaaDoor
set_option linter.unusedVariables false
set_option linter.unusedSimpArgs false
open Go.RowKit Go.Proofs.YtnbhledkdkchlaaDoorW.PrintWords

set_option maxHeartbeats 3000000 in
set_option maxRecDepth 100000 in
theorem sm2_any (A1 A2 A3 : Option Addr) (c1 c2 c3 : Nat) (texts : List ByteArray) (nums : List Int) (bodies : List ByteArray) (w : World) (hl : texts.length ≤ 4)
    (hC1 : Kd.C Kd.string w A1 texts.length texts) (hC2 : Kd.C (Kd.int .i64) w A2 nums.length nums) (hC3 : Kd.C Kd.string w A3 bodies.length bodies) (hln : nums.length ≤ 4) (hlb : bodies.length ≤ 8)
    (hz0 : (tx texts 0).size ≤ 100) (hz1 : (tx texts 1).size ≤ 100) (hzb : (tx bodies 0).size ≤ 100) :
    Calls Tryd.prog 5 #[.int .i64 2, .slice A1 texts.length c1, .slice A2 nums.length c2, .slice A3 bodies.length c3] w fun e w' => SmR w ⟨#[85, 78, 82, 69, 71, 73, 83, 84, 69, 82]⟩ (if (tx texts 1).size = 0 then [tx texts 0] else [tx texts 0, tx texts 1]) ⟨#[]⟩ false (2 ≤ texts.length ∧ 0 ≤ nums.headD 0) e w' := by
  have hmf : ∀ (fn : Fn) (first cap : Array Value) (w : World), (Instr.makeFunc fn first cap).run Tryd.prog w = .ok (.func fn first cap) w := fun _ _ _ _ => rfl
  have HT0 := Aside0.mk (fun (wi : World) (h : SM w wi A1 texts.length c1) => txt9_any 0 w.heap.size A1 c1 texts wi (by decide) h.b5 (Kd.C_below hC1 h.bel) hl)
  have HT1 := Aside0.mk (fun (wi : World) (h : SM w wi A1 texts.length c1) => txt9_any 1 w.heap.size A1 c1 texts wi (by decide) h.b5 (Kd.C_below hC1 h.bel) hl)
  have HS := Aside0.mk (SM.start w A1 texts.length c1)
  generalize tx texts 0 = T0 at *
  generalize tx texts 1 = T1 at *
  generalize texts.length = tl at *
  obtain ⟨num, hnum⟩ : ∃ num, nums.headD 0 = num := ⟨_, rfl⟩
  obtain ⟨body, hbody⟩ : ∃ body, tx bodies 0 = body := ⟨_, rfl⟩
  rw [hnum]
  (try rw [hbody])
  rw [hbody] at hzb
  skip
  obtain ⟨OKP, hok⟩ : ∃ OKP, (2 ≤ tl ∧ 0 ≤ num) = OKP := ⟨_, rfl⟩
  rw [hok]
  have HOKP := Aside0.mk hok
  clear hok
  obtain ⟨PS, hPS⟩ : ∃ PS, (if T1.size = 0 then [T0] else [T0, T1]) = PS := ⟨_, rfl⟩
  rw [hPS]
  have HPS := Aside0.mk hPS
  clear hPS
  have HNUM := Aside0.mk hnum
  have HBODY := Aside0.mk hbody
  have HC2 := Aside0.mk hC2
  have HC3 := Aside0.mk hC3
  clear hC1 hl hnum hbody hC2 hC3
  go_enter Tryd.func5, Tryd.ntmps5
  go_upto_if 20 with (fail)
  go_cut [11] (fun v11 wc => v11 = .int .i64 num ∧ wc = ((w.alloc (.cells #[.slice A1 tl c1] 22)).alloc (.cells #[.string ⟨#[]⟩, .slice none 0 0, .string ⟨#[]⟩, .bool false] 27)))
  case first =>
    cases nums with
    | nil =>
      have h0 : (0 : Int) = num := HNUM.out
      subst h0
      go_wp2_with fail
      go_meet
      case rel => exact ⟨rfl, rfl⟩
    | cons n0 nums =>
      have h0 : n0 = num := HNUM.out
      subst h0
      obtain ⟨ad2, hA2, hc2x⟩ := at_enc HC2.out (j := 0) (x := n0) rfl
      subst hA2
      have hc2 : w.cell? ad2 = some (.int .i64 n0) := by simpa [Addr.add] using hc2x
      have hlt2 : ad2.block < w.heap.size := World.block_lt_of_cell? _ _ hc2
      clear hc2x
      have hgt : 0 < (n0 :: nums).length := by simp
      go_wp2_with fail
      go_meet
      case rel => exact ⟨rfl, rfl⟩
  case rest =>
    obtain ⟨rfl, rfl⟩ := hcut
    go_upto_if 26 with (fail)
    go_cut [12] (fun v12 wc => v12 = .string body ∧ wc = ((w.alloc (.cells #[.slice A1 tl c1] 22)).alloc (.cells #[.string ⟨#[]⟩, .slice none 0 0, .string ⟨#[]⟩, .bool false] 27)))
    case first =>
      cases bodies with
      | nil =>
        have h0 : (⟨#[]⟩ : ByteArray) = body := HBODY.out
        subst h0
        go_wp2_with fail
        go_meet
        case rel => exact ⟨rfl, rfl⟩
      | cons b0 bodies =>
        have h0 : b0 = body := HBODY.out
        subst h0
        obtain ⟨ad3, hA3, hc3x⟩ := at_enc HC3.out (j := 0) (x := b0) rfl
        subst hA3
        have hc3 : w.cell? ad3 = some (.string b0) := by simpa [Addr.add] using hc3x
        have hlt3 : ad3.block < w.heap.size := World.block_lt_of_cell? _ _ hc3
        clear hc3x
        have hgt : 0 < (b0 :: bodies).length := by simp
        go_wp2_with fail
        go_meet
        case rel => exact ⟨rfl, rfl⟩
    case rest =>
      obtain ⟨rfl, rfl⟩ := hcut
      generalize nums.length = ln at *
      generalize bodies.length = lb at *
      clear HC2 HC3 HNUM HBODY
      go_wp2_with fail
      by_cases htl : tl < 2
      · have htli : (tl : Int) < 2 := by omega
        go_quiet (fail)
        refine post_gen (Q := Exit.then _ _) (F := fun wz => SM w wz A1 tl c1) (HS.out.below (by repeat (first | (with_reducible exact Below.refl _ _) | (with_reducible apply below_drew) | (with_reducible apply pw_below_drewN) | (with_reducible apply below_alloc)))) ?_
        intro wq hQ
        have HQ := Aside0.mk hQ
        clear hQ
        obtain ⟨q0, q1, q2, q3⟩ := And.intro (blk_cell HQ.out.b8 0) (And.intro (blk_cell HQ.out.b8 1) (And.intro (blk_cell HQ.out.b8 2) (blk_cell HQ.out.b8 3)))
        have s0 := blk_frozen HQ.out.b8 0
        have s1 := blk_frozen HQ.out.b8 1
        have s2 := blk_frozen HQ.out.b8 2
        have s3 := blk_frozen HQ.out.b8 3
        have hltq := blk_lt HQ.out.b8
        have hl2 : w.heap.size < wq.heap.size := by omega
        have hl3 : w.heap.size ≤ wq.heap.size := by omega
        have hl4 : w.heap.size < wq.heap.size + 1 := by omega
        have hn1 : ¬ (w.heap.size = wq.heap.size) := by omega
        have hn2 : ¬ (wq.heap.size = w.heap.size) := by omega
        have hn3 : ¬ (w.heap.size + 1 = wq.heap.size) := by omega
        have hn4 : ¬ (wq.heap.size = w.heap.size + 1) := by omega
        have hn5 : ¬ (w.heap.size = wq.heap.size + 1) := by omega
        have hn6 : ¬ (wq.heap.size + 1 = w.heap.size) := by omega
        have hfz := fun (wx : World) (c : Array Value) (t : TypeId) (k : Nat) => frozen?_alloc_cells wx c t ⟨w.heap.size + 1, k, none⟩
        go_wp2_with fail
        refine bodyPost_ret (results_ct rfl _ _ (w.heap.size + 1) 27 #[.string ⟨#[]⟩, .slice none 0 0, .string ⟨#[]⟩, .bool false] (0, 0) _ rfl (SM.fin HQ.out).1 Tryd.underlying27 rfl (by kernel_rfl)) rfl ?_
        exact ⟨(SM.fin HQ.out).2, .inl rfl⟩
      · have htli : ¬ (tl : Int) < 2 := by omega
        by_cases hneg : num < 0
        · have hnegi : num < 0 := by omega
          go_quiet (fail)
          refine post_gen (Q := Exit.then _ _) (F := fun wz => SM w wz A1 tl c1) (HS.out.below (by repeat (first | (with_reducible exact Below.refl _ _) | (with_reducible apply below_drew) | (with_reducible apply pw_below_drewN) | (with_reducible apply below_alloc)))) ?_
          intro wq hQ
          have HQ := Aside0.mk hQ
          clear hQ
          obtain ⟨q0, q1, q2, q3⟩ := And.intro (blk_cell HQ.out.b8 0) (And.intro (blk_cell HQ.out.b8 1) (And.intro (blk_cell HQ.out.b8 2) (blk_cell HQ.out.b8 3)))
          have s0 := blk_frozen HQ.out.b8 0
          have s1 := blk_frozen HQ.out.b8 1
          have s2 := blk_frozen HQ.out.b8 2
          have s3 := blk_frozen HQ.out.b8 3
          have hltq := blk_lt HQ.out.b8
          have hl2 : w.heap.size < wq.heap.size := by omega
          have hl3 : w.heap.size ≤ wq.heap.size := by omega
          have hl4 : w.heap.size < wq.heap.size + 1 := by omega
          have hn1 : ¬ (w.heap.size = wq.heap.size) := by omega
          have hn2 : ¬ (wq.heap.size = w.heap.size) := by omega
          have hn3 : ¬ (w.heap.size + 1 = wq.heap.size) := by omega
          have hn4 : ¬ (wq.heap.size = w.heap.size + 1) := by omega
          have hn5 : ¬ (w.heap.size = wq.heap.size + 1) := by omega
          have hn6 : ¬ (wq.heap.size + 1 = w.heap.size) := by omega
          have hfz := fun (wx : World) (c : Array Value) (t : TypeId) (k : Nat) => frozen?_alloc_cells wx c t ⟨w.heap.size + 1, k, none⟩
          go_wp2_with fail
          refine bodyPost_ret (results_ct rfl _ _ (w.heap.size + 1) 27 #[.string ⟨#[]⟩, .slice none 0 0, .string ⟨#[]⟩, .bool false] (0, 0) _ rfl (SM.fin HQ.out).1 Tryd.underlying27 rfl (by kernel_rfl)) rfl ?_
          exact ⟨(SM.fin HQ.out).2, .inl rfl⟩
        · have hnegi : ¬ num < 0 := by omega
          go_quiet (fail)
          refine post_gen (Q := Exit.then _ _) (F := fun wz => SM w wz A1 tl c1) (HS.out.below (by repeat (first | (with_reducible exact Below.refl _ _) | (with_reducible apply below_drew) | (with_reducible apply pw_below_drewN) | (with_reducible apply below_alloc)))) ?_
          intro wq hQ
          have HQ := Aside0.mk hQ
          clear hQ
          obtain ⟨q0, q1, q2, q3⟩ := And.intro (blk_cell HQ.out.b8 0) (And.intro (blk_cell HQ.out.b8 1) (And.intro (blk_cell HQ.out.b8 2) (blk_cell HQ.out.b8 3)))
          have s0 := blk_frozen HQ.out.b8 0
          have s1 := blk_frozen HQ.out.b8 1
          have s2 := blk_frozen HQ.out.b8 2
          have s3 := blk_frozen HQ.out.b8 3
          have hltq := blk_lt HQ.out.b8
          have hl2 : w.heap.size < wq.heap.size := by omega
          have hl3 : w.heap.size ≤ wq.heap.size := by omega
          have hl4 : w.heap.size < wq.heap.size + 1 := by omega
          have hn1 : ¬ (w.heap.size = wq.heap.size) := by omega
          have hn2 : ¬ (wq.heap.size = w.heap.size) := by omega
          have hn3 : ¬ (w.heap.size + 1 = wq.heap.size) := by omega
          have hn4 : ¬ (wq.heap.size = w.heap.size + 1) := by omega
          have hn5 : ¬ (w.heap.size = wq.heap.size + 1) := by omega
          have hn6 : ¬ (wq.heap.size + 1 = w.heap.size) := by omega
          have hfz := fun (wx : World) (c : Array Value) (t : TypeId) (k : Nat) => frozen?_alloc_cells wx c t ⟨w.heap.size + 1, k, none⟩
          go_wp2_with fail
          refine (HT0.out _ (HQ.out.below (by repeat (first | (with_reducible exact Below.refl _ _) | (with_reducible apply below_drew) | (with_reducible apply below_alloc))))).mono ?_
          rintro e w8 ⟨rfl, rfl⟩
          go_wp2_with fail
          refine calls_gen (F := fun wz => ∃ A9 n9 c9, SM w wz A1 tl c1 ∧ wz.heap[wq.heap.size + 1]? = some (.cells #[.string ⟨#[85, 78, 82, 69, 71, 73, 83, 84, 69, 82]⟩, .slice A9 n9 c9, .string ⟨#[]⟩, .bool false] 27 (0, 0)) ∧ Kd.string.R 9 wz (wq.heap.size + 2) (fun q => wq.heap.size + 2 ≤ q) (.slice A9 n9 c9) [T0] ∧ Below wq.heap.size wq wz) ⟨some ⟨wq.heap.size + 1 + 1, 0, none⟩, 1, 1, HQ.out.below (by repeat (first | (with_reducible exact Below.refl _ _) | (with_reducible apply below_drew) | (with_reducible apply below_alloc))), (Below.heap_alloc _ _ _ (by simp)).trans (alloc_new_at (by simp)), str_row_at (l := [T0]) (by simp) rfl (by simp) (by simp), (by repeat (first | (with_reducible exact Below.refl _ _) | (with_reducible apply below_drew) | (with_reducible apply below_alloc)))⟩ ?_
          rintro wr ⟨A9, n9, c9, hsm, hb14, hrow, hbr⟩
          have HQ9 := Aside0.mk hsm
          have HB14 := Aside0.mk hb14
          have HROW := Aside0.mk hrow
          have hfar : w.heap.size + 2 ≤ wq.heap.size + 1 := by omega
          have hlt14 := blk_lt hb14
          have hltz := blk_lt hsm.b8
          obtain ⟨r0, r1, r2, r3⟩ := And.intro (blk_cell hb14 0) (And.intro (blk_cell hb14 1) (And.intro (blk_cell hb14 2) (blk_cell hb14 3)))
          have z1 := blk_frozen hb14 1
          clear hb14 hrow hbr q0 q1 q2 q3 s0 s1 s2 s3 hsm
          refine (HT1.out _ HQ9.out).mono ?_
          rintro e w9 ⟨rfl, hw9⟩
          subst hw9
          by_cases hz9 : T1.size = 0
          · have hT1 := ba_empty hz9
            obtain ⟨q0, q1, q2, q3⟩ := And.intro (blk_cell HQ9.out.b8 0) (And.intro (blk_cell HQ9.out.b8 1) (And.intro (blk_cell HQ9.out.b8 2) (blk_cell HQ9.out.b8 3)))
            have s0 := blk_frozen HQ9.out.b8 0
            have s1 := blk_frozen HQ9.out.b8 1
            have s2 := blk_frozen HQ9.out.b8 2
            have s3 := blk_frozen HQ9.out.b8 3
            subst hT1
            go_wp2_with fail
            refine post_gen (Q := bodyPost _ _ _) (F := fun wf => ∃ v1, wf.heap[w.heap.size + 1]? = some (.cells #[.string ⟨#[85, 78, 82, 69, 71, 73, 83, 84, 69, 82]⟩, v1, .string ⟨#[]⟩, .bool false] 27 (0, 0)) ∧ Below w.heap.size w wf ∧ Kd.string.R 9 wf w.heap.size (fun q => w.heap.size ≤ q) v1 [T0]) ⟨_, (SM.fin HQ9.out).1, (SM.fin HQ9.out).2, reg_row (by omega) HROW.out⟩ ?_
            rintro wf ⟨v1, hbx, hbel, hr⟩
            refine bodyPost_ret (results_ct rfl _ _ (w.heap.size + 1) 27 _ (0, 0) _ rfl hbx Tryd.underlying27 rfl (by kernel_rfl)) rfl ?_
            exact ⟨hbel, .inr ⟨(by rw [← HOKP.out]; exact ⟨by omega, by omega⟩), v1, rfl, by rw [← HPS.out]; simpa [hz9] using hr⟩⟩
          · have hT1 : T1.toList.isEmpty = false := by
              cases h : T1.toList with
              | nil =>
                rw [ByteArray.toList_eq] at h
                exact absurd (show T1.data.toList.length = 0 by rw [h]; rfl) hz9
              | cons a l => rfl
            have HRD := Aside0.mk (Kd.R_drew HROW.out)
            have hbs9 : wq.heap.size + 2 ≤ w9.drew.heap.size := hlt14
            have HOK9 := Aside0.mk (fun (q : Nat) (hq : w9.drew.heap.size ≤ q) => show wq.heap.size + 2 ≤ q by omega)
            have HSD := Aside0.mk (HQ9.out.below (below_drew (Below.refl _ _)))
            go_wp2_with fail
            go_region_law (first
              | (refine goes_cl Tryd.func9 (by kernel_rfl) rfl #[.int .i64 (1 : Nat), .pointer (some ⟨w.heap.size, 0, none⟩)] (by rfl) rfl (by rfl) rfl (by simp only [List.map_toArray, List.map_cons, List.map_nil, List.append_toArray, List.cons_append, List.nil_append]; rfl) ?_
                 refine (HT1.out _ HSD.out).mono ?_
                 rintro e w10 ⟨rfl, rfl⟩
                 refine ⟨_, rfl, ?_⟩)
              | (refine Kd.R_append_step (W := w9.drew) (w0 := w9.drew) Kd.string (wq.heap.size + 2) (by rfl) (.tmp 110) (.tmp 113) 22 9 _ 16 rfl Tryd.underlying22 info9' rfl (by show 0 < 1; decide) (by decide) (.slice A9 n9 c9) [T0] T1 [.string T1] (fun q => wq.heap.size + 2 ≤ q) (fun _ => False) (by simp [Act.eval]) (by simp [Act.eval]) rfl (fun _ h => h.elim) HOK9.out HRD.out (Below.refl _ _) hbs9 (by show (1 + 1) * 16 ≤ 140737488355328; decide) ?_; intro v2 w4 hr1 hb1 hg1 hat1; obtain ⟨A3, n3, c3, rfl⟩ : ∃ A3 n3 c3, v2 = .slice A3 n3 c3 := (by obtain ⟨A, c, h⟩ := Kd.R_slice hr1; exact ⟨A, _, c, h⟩); have hb14 : w4.heap[wq.heap.size + 1]? = some (.cells #[.string ⟨#[85, 78, 82, 69, 71, 73, 83, 84, 69, 82]⟩, .slice A9 n9 c9, .string ⟨#[]⟩, .bool false] 27 (0, 0)) := (hb1.block _ (by omega)).trans HB14.out; have t0 := blk_cell hb14 0; have t1 := blk_cell hb14 1; have t2 := blk_cell hb14 2; have t3 := blk_cell hb14 3; have z2 := blk_frozen hb14 1; have HS4 := Aside0.mk (HSD.out.belowB (by omega) hb1); have HR4 := Aside0.mk hr1; have hlt4 := blk_lt hb14; clear hr1 hb1 hg1 hat1 hb14))
            all_goals
              obtain ⟨q0, q1, q2, q3⟩ := And.intro (blk_cell HS4.out.b8 0) (And.intro (blk_cell HS4.out.b8 1) (And.intro (blk_cell HS4.out.b8 2) (blk_cell HS4.out.b8 3)))
              have s0 := blk_frozen HS4.out.b8 0
              have s1 := blk_frozen HS4.out.b8 1
              have s2 := blk_frozen HS4.out.b8 2
              have s3 := blk_frozen HS4.out.b8 3
              have hlt5 := blk_lt HS4.out.b8
              go_wp2_with fail
              refine post_gen (Q := bodyPost _ _ _) (F := fun wf => ∃ v1, wf.heap[w.heap.size + 1]? = some (.cells #[.string ⟨#[85, 78, 82, 69, 71, 73, 83, 84, 69, 82]⟩, v1, .string ⟨#[]⟩, .bool false] 27 (0, 0)) ∧ Below w.heap.size w wf ∧ Kd.string.R 9 wf w.heap.size (fun q => w.heap.size ≤ q) v1 [T0, T1]) ⟨_, (SM.fin (SM.far HS4.out hfar)).1, (SM.fin (SM.far HS4.out hfar)).2, reg_row (by omega) (Kd.R_far HR4.out (fun q hq => by show q ≠ wq.heap.size + 1; omega) _)⟩ ?_
              rintro wf ⟨v1, hbx, hbel, hr⟩
              refine bodyPost_ret (results_ct rfl _ _ (w.heap.size + 1) 27 _ (0, 0) _ rfl hbx Tryd.underlying27 rfl (by kernel_rfl)) rfl ?_
              exact ⟨hbel, .inr ⟨(by rw [← HOKP.out]; exact ⟨by omega, by omega⟩), v1, rfl, by rw [← HPS.out]; simpa [hz9] using hr⟩⟩
end Go.Proofs.YtnbhledkdkchlaaDoor

namespace Go.Proofs.YtnbhledkdkchlaaDoor
set_option linter.unusedVariables false
set_option linter.unusedSimpArgs false
open Go.RowKit Go.Proofs.YtnbhledkdkchlaaDoorW.PrintWords

set_option maxHeartbeats 3000000 in
set_option maxRecDepth 100000 in
theorem sm3_any (A1 A2 A3 : Option Addr) (c1 c2 c3 : Nat) (texts : List ByteArray) (nums : List Int) (bodies : List ByteArray) (w : World) (hl : texts.length ≤ 4)
    (hC1 : Kd.C Kd.string w A1 texts.length texts) (hC2 : Kd.C (Kd.int .i64) w A2 nums.length nums) (hC3 : Kd.C Kd.string w A3 bodies.length bodies) (hln : nums.length ≤ 4) (hlb : bodies.length ≤ 8)
    (hz0 : (tx texts 0).size ≤ 100) (hz1 : (tx texts 1).size ≤ 100) (hzb : (tx bodies 0).size ≤ 100) :
    Calls Tryd.prog 5 #[.int .i64 3, .slice A1 texts.length c1, .slice A2 nums.length c2, .slice A3 bodies.length c3] w fun e w' => SmR w ⟨#[80, 73, 78, 71]⟩ [] ⟨#[]⟩ false (0 ≤ texts.length ∧ 0 ≤ nums.headD 0) e w' := by
  have hmf : ∀ (fn : Fn) (first cap : Array Value) (w : World), (Instr.makeFunc fn first cap).run Tryd.prog w = .ok (.func fn first cap) w := fun _ _ _ _ => rfl
  have HT0 := Aside0.mk (fun (wi : World) (h : SM w wi A1 texts.length c1) => txt9_any 0 w.heap.size A1 c1 texts wi (by decide) h.b5 (Kd.C_below hC1 h.bel) hl)
  have HT1 := Aside0.mk (fun (wi : World) (h : SM w wi A1 texts.length c1) => txt9_any 1 w.heap.size A1 c1 texts wi (by decide) h.b5 (Kd.C_below hC1 h.bel) hl)
  have HS := Aside0.mk (SM.start w A1 texts.length c1)
  generalize tx texts 0 = T0 at *
  generalize tx texts 1 = T1 at *
  generalize texts.length = tl at *
  obtain ⟨num, hnum⟩ : ∃ num, nums.headD 0 = num := ⟨_, rfl⟩
  obtain ⟨body, hbody⟩ : ∃ body, tx bodies 0 = body := ⟨_, rfl⟩
  rw [hnum]
  (try rw [hbody])
  rw [hbody] at hzb
  skip
  obtain ⟨OKP, hok⟩ : ∃ OKP, (0 ≤ tl ∧ 0 ≤ num) = OKP := ⟨_, rfl⟩
  rw [hok]
  have HOKP := Aside0.mk hok
  clear hok
  have HNUM := Aside0.mk hnum
  have HBODY := Aside0.mk hbody
  have HC2 := Aside0.mk hC2
  have HC3 := Aside0.mk hC3
  clear hC1 hl hnum hbody hC2 hC3
  go_enter Tryd.func5, Tryd.ntmps5
  go_upto_if 20 with (fail)
  go_cut [11] (fun v11 wc => v11 = .int .i64 num ∧ wc = ((w.alloc (.cells #[.slice A1 tl c1] 22)).alloc (.cells #[.string ⟨#[]⟩, .slice none 0 0, .string ⟨#[]⟩, .bool false] 27)))
  case first =>
    cases nums with
    | nil =>
      have h0 : (0 : Int) = num := HNUM.out
      subst h0
      go_wp2_with fail
      go_meet
      case rel => exact ⟨rfl, rfl⟩
    | cons n0 nums =>
      have h0 : n0 = num := HNUM.out
      subst h0
      obtain ⟨ad2, hA2, hc2x⟩ := at_enc HC2.out (j := 0) (x := n0) rfl
      subst hA2
      have hc2 : w.cell? ad2 = some (.int .i64 n0) := by simpa [Addr.add] using hc2x
      have hlt2 : ad2.block < w.heap.size := World.block_lt_of_cell? _ _ hc2
      clear hc2x
      have hgt : 0 < (n0 :: nums).length := by simp
      go_wp2_with fail
      go_meet
      case rel => exact ⟨rfl, rfl⟩
  case rest =>
    obtain ⟨rfl, rfl⟩ := hcut
    go_upto_if 26 with (fail)
    go_cut [12] (fun v12 wc => v12 = .string body ∧ wc = ((w.alloc (.cells #[.slice A1 tl c1] 22)).alloc (.cells #[.string ⟨#[]⟩, .slice none 0 0, .string ⟨#[]⟩, .bool false] 27)))
    case first =>
      cases bodies with
      | nil =>
        have h0 : (⟨#[]⟩ : ByteArray) = body := HBODY.out
        subst h0
        go_wp2_with fail
        go_meet
        case rel => exact ⟨rfl, rfl⟩
      | cons b0 bodies =>
        have h0 : b0 = body := HBODY.out
        subst h0
        obtain ⟨ad3, hA3, hc3x⟩ := at_enc HC3.out (j := 0) (x := b0) rfl
        subst hA3
        have hc3 : w.cell? ad3 = some (.string b0) := by simpa [Addr.add] using hc3x
        have hlt3 : ad3.block < w.heap.size := World.block_lt_of_cell? _ _ hc3
        clear hc3x
        have hgt : 0 < (b0 :: bodies).length := by simp
        go_wp2_with fail
        go_meet
        case rel => exact ⟨rfl, rfl⟩
    case rest =>
      obtain ⟨rfl, rfl⟩ := hcut
      generalize nums.length = ln at *
      generalize bodies.length = lb at *
      clear HC2 HC3 HNUM HBODY
      go_wp2_with fail
      have htli : ¬ (tl : Int) < 0 := by omega
      by_cases hneg : num < 0
      · have hnegi : num < 0 := by omega
        go_quiet (fail)
        refine post_gen (Q := Exit.then _ _) (F := fun wz => SM w wz A1 tl c1) (HS.out.below (by repeat (first | (with_reducible exact Below.refl _ _) | (with_reducible apply below_drew) | (with_reducible apply pw_below_drewN) | (with_reducible apply below_alloc)))) ?_
        intro wq hQ
        have HQ := Aside0.mk hQ
        clear hQ
        obtain ⟨q0, q1, q2, q3⟩ := And.intro (blk_cell HQ.out.b8 0) (And.intro (blk_cell HQ.out.b8 1) (And.intro (blk_cell HQ.out.b8 2) (blk_cell HQ.out.b8 3)))
        have s0 := blk_frozen HQ.out.b8 0
        have s1 := blk_frozen HQ.out.b8 1
        have s2 := blk_frozen HQ.out.b8 2
        have s3 := blk_frozen HQ.out.b8 3
        have hltq := blk_lt HQ.out.b8
        have hl2 : w.heap.size < wq.heap.size := by omega
        have hl3 : w.heap.size ≤ wq.heap.size := by omega
        have hl4 : w.heap.size < wq.heap.size + 1 := by omega
        have hn1 : ¬ (w.heap.size = wq.heap.size) := by omega
        have hn2 : ¬ (wq.heap.size = w.heap.size) := by omega
        have hn3 : ¬ (w.heap.size + 1 = wq.heap.size) := by omega
        have hn4 : ¬ (wq.heap.size = w.heap.size + 1) := by omega
        have hn5 : ¬ (w.heap.size = wq.heap.size + 1) := by omega
        have hn6 : ¬ (wq.heap.size + 1 = w.heap.size) := by omega
        have hfz := fun (wx : World) (c : Array Value) (t : TypeId) (k : Nat) => frozen?_alloc_cells wx c t ⟨w.heap.size + 1, k, none⟩
        go_wp2_with fail
        refine bodyPost_ret (results_ct rfl _ _ (w.heap.size + 1) 27 #[.string ⟨#[]⟩, .slice none 0 0, .string ⟨#[]⟩, .bool false] (0, 0) _ rfl (SM.fin HQ.out).1 Tryd.underlying27 rfl (by kernel_rfl)) rfl ?_
        exact ⟨(SM.fin HQ.out).2, .inl rfl⟩
      · have hnegi : ¬ num < 0 := by omega
        go_quiet (fail)
        refine post_gen (Q := Exit.then _ _) (F := fun wz => SM w wz A1 tl c1) (HS.out.below (by repeat (first | (with_reducible exact Below.refl _ _) | (with_reducible apply below_drew) | (with_reducible apply pw_below_drewN) | (with_reducible apply below_alloc)))) ?_
        intro wq hQ
        have HQ := Aside0.mk hQ
        clear hQ
        obtain ⟨q0, q1, q2, q3⟩ := And.intro (blk_cell HQ.out.b8 0) (And.intro (blk_cell HQ.out.b8 1) (And.intro (blk_cell HQ.out.b8 2) (blk_cell HQ.out.b8 3)))
        have s0 := blk_frozen HQ.out.b8 0
        have s1 := blk_frozen HQ.out.b8 1
        have s2 := blk_frozen HQ.out.b8 2
        have s3 := blk_frozen HQ.out.b8 3
        have hltq := blk_lt HQ.out.b8
        have hl2 : w.heap.size < wq.heap.size := by omega
        have hl3 : w.heap.size ≤ wq.heap.size := by omega
        have hl4 : w.heap.size < wq.heap.size + 1 := by omega
        have hn1 : ¬ (w.heap.size = wq.heap.size) := by omega
        have hn2 : ¬ (wq.heap.size = w.heap.size) := by omega
        have hn3 : ¬ (w.heap.size + 1 = wq.heap.size) := by omega
        have hn4 : ¬ (wq.heap.size = w.heap.size + 1) := by omega
        have hn5 : ¬ (w.heap.size = wq.heap.size + 1) := by omega
        have hn6 : ¬ (wq.heap.size + 1 = w.heap.size) := by omega
        have hfz := fun (wx : World) (c : Array Value) (t : TypeId) (k : Nat) => frozen?_alloc_cells wx c t ⟨w.heap.size + 1, k, none⟩
        go_wp2_with fail
        refine post_gen (Q := bodyPost _ _ _) (F := fun wf => ∃ v1, wf.heap[w.heap.size + 1]? = some (.cells #[.string ⟨#[80, 73, 78, 71]⟩, v1, .string ⟨#[]⟩, .bool false] 27 (0, 0)) ∧ Below w.heap.size w wf ∧ Kd.string.R 9 wf w.heap.size (fun q => w.heap.size ≤ q) v1 []) ⟨_, (blk_below (SM.fin HQ.out).1 (by repeat (first | (with_reducible exact Below.refl _ _) | (with_reducible apply below_drew) | (with_reducible apply below_alloc)))), (by repeat (first | (with_reducible exact (SM.fin HQ.out).2) | (with_reducible apply below_alloc))), Kd.R_nil _ _ _ _ _⟩ ?_
        rintro wf ⟨v1, hbx, hbel, hr⟩
        refine bodyPost_ret (results_ct rfl _ _ (w.heap.size + 1) 27 _ (0, 0) _ rfl hbx Tryd.underlying27 rfl (by kernel_rfl)) rfl ?_
        exact ⟨hbel, .inr ⟨(by rw [← HOKP.out]; exact ⟨by omega, by omega⟩), v1, rfl, hr⟩⟩
end Go.Proofs.YtnbhledkdkchlaaDoor
