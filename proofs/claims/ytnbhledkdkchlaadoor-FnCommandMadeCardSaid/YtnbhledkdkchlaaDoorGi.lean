/- spec.Made: way 6. (seat r2.D; printed by gen_cs.py) spec.Made: way 7. (seat r2.D; printed by gen_cs.py) spec.Made: way 8. (seat r2.D; printed by gen_cs.py) -/
import Derived.Test.YtnbhledkdkchlaaDoorGc
import Derived.RowKit3
import Derived.Deep.RegionLaw
namespace Go.Proofs.YtnbhledkdkchlaaDoor
set_option linter.unusedVariables false
set_option linter.unusedSimpArgs false
open Go.RowKit Go.Proofs.YtnbhledkdkchlaaDoorW.PrintWords

set_option maxHeartbeats 3000000 in
set_option maxRecDepth 100000 in
theorem sm6_any (A1 A2 A3 : Option Addr) (c1 c2 c3 : Nat) (texts : List ByteArray) (nums : List Int) (bodies : List ByteArray) (w : World) (hl : texts.length ≤ 4)
    (hC1 : Kd.C Kd.string w A1 texts.length texts) (hC2 : Kd.C (Kd.int .i64) w A2 nums.length nums) (hC3 : Kd.C Kd.string w A3 bodies.length bodies) (hln : nums.length ≤ 4) (hlb : bodies.length ≤ 8)
    (hz0 : (tx texts 0).size ≤ 100) (hz1 : (tx texts 1).size ≤ 100) (hzb : (tx bodies 0).size ≤ 100) (hall : ∀ s ∈ bodies, s.size ≤ 100) :
    Calls Tryd.prog 5 #[.int .i64 6, .slice A1 texts.length c1, .slice A2 nums.length c2, .slice A3 bodies.length c3] w fun e w' => SmR w ⟨#[77, 80, 85, 66]⟩ [tx texts 0] (mpB bodies (strOfNums (be4 bodies.length))) true (1 ≤ texts.length ∧ 0 ≤ nums.headD 0) e w' := by
  have hmf : ∀ (fn : Fn) (first cap : Array Value) (w : World), (Instr.makeFunc fn first cap).run Tryd.prog w = .ok (.func fn first cap) w := fun _ _ _ _ => rfl
  have HT0 := Aside0.mk (fun (wi : World) (h : SM w wi A1 texts.length c1) => txt9_any 0 w.heap.size A1 c1 texts wi (by decide) h.b5 (Kd.C_below hC1 h.bel) hl)
  have HT1 := Aside0.mk (fun (wi : World) (h : SM w wi A1 texts.length c1) => txt9_any 1 w.heap.size A1 c1 texts wi (by decide) h.b5 (Kd.C_below hC1 h.bel) hl)
  have HS := Aside0.mk (SM.start w A1 texts.length c1)
  generalize tx texts 0 = T0 at *
  generalize tx texts 1 = T1 at *
  generalize texts.length = tl at *
  obtain ⟨num, hnum⟩ : ∃ num, nums.headD 0 = num := ⟨_, rfl⟩
  obtain ⟨body, hbody⟩ : ∃ body, tx bodies 0 = body := ⟨_, rfl⟩
  rw [hnum]
  (try rw [hbody])
  rw [hbody] at hzb
  skip
  obtain ⟨OKP, hok⟩ : ∃ OKP, (1 ≤ tl ∧ 0 ≤ num) = OKP := ⟨_, rfl⟩
  rw [hok]
  have HOKP := Aside0.mk hok
  clear hok
  obtain ⟨BSV, hBS⟩ : ∃ BSV, mpB bodies (strOfNums (be4 bodies.length)) = BSV := ⟨_, rfl⟩
  rw [hBS]
  obtain ⟨TB, hTB⟩ : ∃ TB, strOfNums (be4 (bodies.length : Int)) = TB := ⟨_, rfl⟩
  rw [hTB] at hBS
  have HBS := Aside0.mk hBS
  have htbz : TB.size = 4 := by rw [← hTB]; exact be4_size _
  have hbo := fun wi => bytesOf4_any (bodies.length : Int) wi
  simp only [hTB] at hbo
  have HBO := Aside0.mk hbo
  have hu : IntKind.u64.wrap ((bodies.length : Nat) : Int) = (bodies.length : Int) := by rw [IntKind.wrap_u64]; omega
  have HALL := Aside0.mk hall
  have HAT := Aside0.mk (fun (j : Nat) (x : ByteArray) (hx : bodies[j]? = some x) => at_enc hC3 hx)
  clear hBS hTB hbo hall
  have HNUM := Aside0.mk hnum
  have HBODY := Aside0.mk hbody
  have HC2 := Aside0.mk hC2
  have HC3 := Aside0.mk hC3
  clear hC1 hl hnum hbody hC2 hC3
  go_enter Tryd.func5, Tryd.ntmps5
  go_upto_if 20 with (fail)
  go_cut [11] (fun v11 wc => v11 = .int .i64 num ∧ wc = ((w.alloc (.cells #[.slice A1 tl c1] 22)).alloc (.cells #[.string ⟨#[]⟩, .slice none 0 0, .string ⟨#[]⟩, .bool false] 27)))
  case first =>
    cases nums with
    | nil =>
      have h0 : (0 : Int) = num := HNUM.out
      subst h0
      go_wp2_with fail
      go_meet
      case rel => exact ⟨rfl, rfl⟩
    | cons n0 nums =>
      have h0 : n0 = num := HNUM.out
      subst h0
      obtain ⟨ad2, hA2, hc2x⟩ := at_enc HC2.out (j := 0) (x := n0) rfl
      subst hA2
      have hc2 : w.cell? ad2 = some (.int .i64 n0) := by simpa [Addr.add] using hc2x
      have hlt2 : ad2.block < w.heap.size := World.block_lt_of_cell? _ _ hc2
      clear hc2x
      have hgt : 0 < (n0 :: nums).length := by simp
      go_wp2_with fail
      go_meet
      case rel => exact ⟨rfl, rfl⟩
  case rest =>
    obtain ⟨rfl, rfl⟩ := hcut
    go_upto_if 26 with (fail)
    go_cut [12] (fun v12 wc => v12 = .string body ∧ wc = ((w.alloc (.cells #[.slice A1 tl c1] 22)).alloc (.cells #[.string ⟨#[]⟩, .slice none 0 0, .string ⟨#[]⟩, .bool false] 27)))
    case first =>
      cases bodies with
      | nil =>
        have h0 : (⟨#[]⟩ : ByteArray) = body := HBODY.out
        subst h0
        go_wp2_with fail
        go_meet
        case rel => exact ⟨rfl, rfl⟩
      | cons b0 bodies =>
        have h0 : b0 = body := HBODY.out
        subst h0
        obtain ⟨ad3, hA3, hc3x⟩ := at_enc HC3.out (j := 0) (x := b0) rfl
        subst hA3
        have hc3 : w.cell? ad3 = some (.string b0) := by simpa [Addr.add] using hc3x
        have hlt3 : ad3.block < w.heap.size := World.block_lt_of_cell? _ _ hc3
        clear hc3x
        have hgt : 0 < (b0 :: bodies).length := by simp
        go_wp2_with fail
        go_meet
        case rel => exact ⟨rfl, rfl⟩
    case rest =>
      obtain ⟨rfl, rfl⟩ := hcut
      generalize nums.length = ln at *
      generalize hlbq : bodies.length = lb at *
      have HLB := Aside0.mk hlbq
      clear hlbq
      clear HC2 HC3 HNUM HBODY
      go_wp2_with fail
      by_cases htl : tl < 1
      · have htli : (tl : Int) < 1 := by omega
        go_quiet (fail)
        refine post_gen (Q := Exit.then _ _) (F := fun wz => SM w wz A1 tl c1) (HS.out.below (by repeat (first | (with_reducible exact Below.refl _ _) | (with_reducible apply below_drew) | (with_reducible apply pw_below_drewN) | (with_reducible apply below_alloc)))) ?_
        intro wq hQ
        have HQ := Aside0.mk hQ
        clear hQ
        obtain ⟨q0, q1, q2, q3⟩ := And.intro (blk_cell HQ.out.b8 0) (And.intro (blk_cell HQ.out.b8 1) (And.intro (blk_cell HQ.out.b8 2) (blk_cell HQ.out.b8 3)))
        have s0 := blk_frozen HQ.out.b8 0
        have s1 := blk_frozen HQ.out.b8 1
        have s2 := blk_frozen HQ.out.b8 2
        have s3 := blk_frozen HQ.out.b8 3
        have hltq := blk_lt HQ.out.b8
        have hl2 : w.heap.size < wq.heap.size := by omega
        have hl3 : w.heap.size ≤ wq.heap.size := by omega
        have hl4 : w.heap.size < wq.heap.size + 1 := by omega
        have hn1 : ¬ (w.heap.size = wq.heap.size) := by omega
        have hn2 : ¬ (wq.heap.size = w.heap.size) := by omega
        have hn3 : ¬ (w.heap.size + 1 = wq.heap.size) := by omega
        have hn4 : ¬ (wq.heap.size = w.heap.size + 1) := by omega
        have hn5 : ¬ (w.heap.size = wq.heap.size + 1) := by omega
        have hn6 : ¬ (wq.heap.size + 1 = w.heap.size) := by omega
        have hfz := fun (wx : World) (c : Array Value) (t : TypeId) (k : Nat) => frozen?_alloc_cells wx c t ⟨w.heap.size + 1, k, none⟩
        go_wp2_with fail
        refine bodyPost_ret (results_ct rfl _ _ (w.heap.size + 1) 27 #[.string ⟨#[]⟩, .slice none 0 0, .string ⟨#[]⟩, .bool false] (0, 0) _ rfl (SM.fin HQ.out).1 Tryd.underlying27 rfl (by kernel_rfl)) rfl ?_
        exact ⟨(SM.fin HQ.out).2, .inl rfl⟩
      · have htli : ¬ (tl : Int) < 1 := by omega
        by_cases hneg : num < 0
        · have hnegi : num < 0 := by omega
          go_quiet (fail)
          refine post_gen (Q := Exit.then _ _) (F := fun wz => SM w wz A1 tl c1) (HS.out.below (by repeat (first | (with_reducible exact Below.refl _ _) | (with_reducible apply below_drew) | (with_reducible apply pw_below_drewN) | (with_reducible apply below_alloc)))) ?_
          intro wq hQ
          have HQ := Aside0.mk hQ
          clear hQ
          obtain ⟨q0, q1, q2, q3⟩ := And.intro (blk_cell HQ.out.b8 0) (And.intro (blk_cell HQ.out.b8 1) (And.intro (blk_cell HQ.out.b8 2) (blk_cell HQ.out.b8 3)))
          have s0 := blk_frozen HQ.out.b8 0
          have s1 := blk_frozen HQ.out.b8 1
          have s2 := blk_frozen HQ.out.b8 2
          have s3 := blk_frozen HQ.out.b8 3
          have hltq := blk_lt HQ.out.b8
          have hl2 : w.heap.size < wq.heap.size := by omega
          have hl3 : w.heap.size ≤ wq.heap.size := by omega
          have hl4 : w.heap.size < wq.heap.size + 1 := by omega
          have hn1 : ¬ (w.heap.size = wq.heap.size) := by omega
          have hn2 : ¬ (wq.heap.size = w.heap.size) := by omega
          have hn3 : ¬ (w.heap.size + 1 = wq.heap.size) := by omega
          have hn4 : ¬ (wq.heap.size = w.heap.size + 1) := by omega
          have hn5 : ¬ (w.heap.size = wq.heap.size + 1) := by omega
          have hn6 : ¬ (wq.heap.size + 1 = w.heap.size) := by omega
          have hfz := fun (wx : World) (c : Array Value) (t : TypeId) (k : Nat) => frozen?_alloc_cells wx c t ⟨w.heap.size + 1, k, none⟩
          go_wp2_with fail
          refine bodyPost_ret (results_ct rfl _ _ (w.heap.size + 1) 27 #[.string ⟨#[]⟩, .slice none 0 0, .string ⟨#[]⟩, .bool false] (0, 0) _ rfl (SM.fin HQ.out).1 Tryd.underlying27 rfl (by kernel_rfl)) rfl ?_
          exact ⟨(SM.fin HQ.out).2, .inl rfl⟩
        · have hnegi : ¬ num < 0 := by omega
          go_quiet (fail)
          refine post_gen (Q := Exit.then _ _) (F := fun wz => SM w wz A1 tl c1) (HS.out.below (by repeat (first | (with_reducible exact Below.refl _ _) | (with_reducible apply below_drew) | (with_reducible apply pw_below_drewN) | (with_reducible apply below_alloc)))) ?_
          intro wq hQ
          have HQ := Aside0.mk hQ
          clear hQ
          obtain ⟨q0, q1, q2, q3⟩ := And.intro (blk_cell HQ.out.b8 0) (And.intro (blk_cell HQ.out.b8 1) (And.intro (blk_cell HQ.out.b8 2) (blk_cell HQ.out.b8 3)))
          have s0 := blk_frozen HQ.out.b8 0
          have s1 := blk_frozen HQ.out.b8 1
          have s2 := blk_frozen HQ.out.b8 2
          have s3 := blk_frozen HQ.out.b8 3
          have hltq := blk_lt HQ.out.b8
          have hl2 : w.heap.size < wq.heap.size := by omega
          have hl3 : w.heap.size ≤ wq.heap.size := by omega
          have hl4 : w.heap.size < wq.heap.size + 1 := by omega
          have hn1 : ¬ (w.heap.size = wq.heap.size) := by omega
          have hn2 : ¬ (wq.heap.size = w.heap.size) := by omega
          have hn3 : ¬ (w.heap.size + 1 = wq.heap.size) := by omega
          have hn4 : ¬ (wq.heap.size = w.heap.size + 1) := by omega
          have hn5 : ¬ (w.heap.size = wq.heap.size + 1) := by omega
          have hn6 : ¬ (wq.heap.size + 1 = w.heap.size) := by omega
          have hfz := fun (wx : World) (c : Array Value) (t : TypeId) (k : Nat) => frozen?_alloc_cells wx c t ⟨w.heap.size + 1, k, none⟩
          go_wp2_with fail
          refine (HT0.out _ (HQ.out.below (by repeat (first | (with_reducible exact Below.refl _ _) | (with_reducible apply below_drew) | (with_reducible apply below_alloc))))).mono ?_
          rintro e w8 ⟨rfl, rfl⟩
          go_wp2_with fail
          refine calls_gen (F := fun wz => MS w wz A1 tl c1 (wq.heap.size + 1) ⟨#[77, 80, 85, 66]⟩ (.slice (some ⟨wq.heap.size + 1 + 1, 0, none⟩) 1 1) ⟨#[]⟩ [T0]) ⟨HQ.out.below (by repeat (first | (with_reducible exact Below.refl _ _) | (with_reducible apply below_drew) | (with_reducible apply below_alloc))), (Below.heap_alloc _ _ _ (by simp)).trans (alloc_new_at (by simp)), Kd.R_lower (Kd.R_mono (str_row_at (base := wq.heap.size + 2) (l := [T0]) (by simp) (by rfl) (by simp) (by simp)) (fun q (hq : wq.heap.size + 2 ≤ q) => (show w.heap.size + 2 ≤ q ∧ q ≠ wq.heap.size + 1 by omega))) (by omega), by omega⟩ ?_
          intro wr hms
          have HMS := Aside0.mk hms
          clear hms q0 q1 q2 q3 s0 s1 s2 s3
          refine (HBO.out _).mono ?_
          rintro e w9 ⟨rfl, hb⟩
          have HM9 := Aside0.mk (HMS.out.below hb)
          clear hb HMS
          obtain ⟨r0, r1, r2, r3⟩ := And.intro (blk_cell HM9.out.b14 0) (And.intro (blk_cell HM9.out.b14 1) (And.intro (blk_cell HM9.out.b14 2) (blk_cell HM9.out.b14 3)))
          have z2 := blk_frozen HM9.out.b14 2
          go_wp2_with fail
          go_loopg [16, 151] lb (fun gk v16 v151 wr => ∃ (j : Nat) (vs : Value), v16 = vs ∧ v151 = .int .i64 j ∧ Aside0 (j ≤ lb ∧ gk = lb - j) ∧ Aside0 (MS w wr A1 tl c1 (wq.heap.size + 1) ⟨#[77, 80, 85, 66]⟩ (.slice (some ⟨wq.heap.size + 1 + 1, 0, none⟩) 1 1) (mpB (bodies.take j) TB) [T0]))
          case atStart => exact ⟨0, _, rfl, rfl, ⟨by omega⟩, ⟨by simpa [mpB] using HM9.out.put TB⟩⟩
          case round =>
            clear HM9 r0 r1 r2 r3 z2
            obtain ⟨j, vs, rfl, rfl, HJ, HM⟩ := hrel
            obtain ⟨r0, r1, r2, r3⟩ := And.intro (blk_cell HM.out.b14 0) (And.intro (blk_cell HM.out.b14 1) (And.intro (blk_cell HM.out.b14 2) (blk_cell HM.out.b14 3)))
            have hlt9 := blk_lt HM.out.b14
            by_cases hj : j < lb
            · obtain ⟨x, hx⟩ : ∃ x, bodies[j]? = some x := ⟨_, List.getElem?_eq_getElem (by rw [HLB.out]; exact hj)⟩
              obtain ⟨ad, hA, hcx⟩ := HAT.out j x hx
              have hcx2 := pw_cell_below HM.out.sm.bel hcx
              subst hA
              have hxz := HALL.out x (List.mem_of_getElem? hx)
              have HSZ := Aside0.mk (fun wi => sized_any x wi hxz)
              have hsz := szd_size x
              have hac := mpB_size (bodies.take j) (fun s hs => HALL.out s (List.mem_of_mem_take hs)) TB
              have HTK := Aside0.mk (mpB_take hx TB)
              rw [List.length_take] at hac
              generalize szd x = SX at *
              generalize mpB (bodies.take j) TB = ACC at *
              have hb1 : ACC.size ≤ 2000 := by have := HLB.out; omega
              have hb2 : SX.size ≤ 200 := by omega
              have z2 := blk_frozen HM.out.b14 2
              clear hx hcx hxz hsz hac
              go_wp2_with fail
              go_region_with (go_at_call 12; refine (HSZ.out _).mono ?_; rintro e w10 ⟨rfl, hb⟩; have HM10 := Aside0.mk (HM.out.below ((below_drew (Below.refl _ _)).trans hb)); have p2 := blk_cell HM10.out.b14 2; have f2 := blk_frozen HM10.out.b14 2; have hlt10 := blk_lt HM10.out.b14; clear hb)
              all_goals
                go_wp2_with fail
                go_roundg (lb - (j + 1))
                case measure => have := HJ.out.2; omega
                case rel => exact ⟨j + 1, _, rfl, by go_num, ⟨by omega⟩, ⟨by rw [HTK.out]; exact HM10.out.put _⟩⟩
            · have hje : j = lb := by have := HJ.out.1; omega
              subst hje
              have htk : bodies.take j = bodies := List.take_of_length_le (by rw [HLB.out]; omega)
              rw [htk] at HM r2
              have HMP := Aside0.mk HM.out.sm
              obtain ⟨q0, q1, q2, q3⟩ := And.intro (blk_cell HM.out.sm.b8 0) (And.intro (blk_cell HM.out.sm.b8 1) (And.intro (blk_cell HM.out.sm.b8 2) (blk_cell HM.out.sm.b8 3)))
              have s0 := blk_frozen HM.out.sm.b8 0
              have s1 := blk_frozen HM.out.sm.b8 1
              have s2 := blk_frozen HM.out.sm.b8 2
              have s3 := blk_frozen HM.out.sm.b8 3
              have hn7 : ¬ (w.heap.size + 1 = wq.heap.size + 1) := by omega
              have hn8 : ¬ (wq.heap.size + 1 = w.heap.size + 1) := by omega
              rw [HBS.out] at HM r2
              go_wp2_with fail
              refine post_gen (Q := bodyPost _ _ _) (F := fun wf => ∃ v1, wf.heap[w.heap.size + 1]? = some (.cells #[.string ⟨#[77, 80, 85, 66]⟩, v1, .string BSV, .bool true] 27 (0, 0)) ∧ Below w.heap.size w wf ∧ Kd.string.R 9 wf w.heap.size (fun q => w.heap.size ≤ q) v1 [T0]) ⟨_, (SM.fin HM.out.sm).1, (SM.fin HM.out.sm).2, HM.out.fin⟩ ?_
              rintro wf ⟨v1, hbx, hbel, hr⟩
              refine bodyPost_ret (results_ct rfl _ _ (w.heap.size + 1) 27 _ (0, 0) _ rfl hbx Tryd.underlying27 rfl (by kernel_rfl)) rfl ?_
              exact ⟨hbel, .inr ⟨(by rw [← HOKP.out]; exact ⟨by omega, by omega⟩), v1, rfl, hr⟩⟩
end Go.Proofs.YtnbhledkdkchlaaDoor

namespace Go.Proofs.YtnbhledkdkchlaaDoor
set_option linter.unusedVariables false
set_option linter.unusedSimpArgs false
open Go.RowKit Go.Proofs.YtnbhledkdkchlaaDoorW.PrintWords

set_option maxHeartbeats 3000000 in
set_option maxRecDepth 100000 in
theorem sm7_any (A1 A2 A3 : Option Addr) (c1 c2 c3 : Nat) (texts : List ByteArray) (nums : List Int) (bodies : List ByteArray) (w : World) (hl : texts.length ≤ 4)
    (hC1 : Kd.C Kd.string w A1 texts.length texts) (hC2 : Kd.C (Kd.int .i64) w A2 nums.length nums) (hC3 : Kd.C Kd.string w A3 bodies.length bodies) (hln : nums.length ≤ 4) (hlb : bodies.length ≤ 8)
    (hz0 : (tx texts 0).size ≤ 100) (hz1 : (tx texts 1).size ≤ 100) (hzb : (tx bodies 0).size ≤ 100) :
    Calls Tryd.prog 5 #[.int .i64 7, .slice A1 texts.length c1, .slice A2 nums.length c2, .slice A3 bodies.length c3] w fun e w' => SmR w ⟨#[83, 85, 66]⟩ [tx texts 0, tx texts 1] ⟨#[]⟩ false (2 ≤ texts.length ∧ 0 ≤ nums.headD 0) e w' := by
  have hmf : ∀ (fn : Fn) (first cap : Array Value) (w : World), (Instr.makeFunc fn first cap).run Tryd.prog w = .ok (.func fn first cap) w := fun _ _ _ _ => rfl
  have HT0 := Aside0.mk (fun (wi : World) (h : SM w wi A1 texts.length c1) => txt9_any 0 w.heap.size A1 c1 texts wi (by decide) h.b5 (Kd.C_below hC1 h.bel) hl)
  have HT1 := Aside0.mk (fun (wi : World) (h : SM w wi A1 texts.length c1) => txt9_any 1 w.heap.size A1 c1 texts wi (by decide) h.b5 (Kd.C_below hC1 h.bel) hl)
  have HS := Aside0.mk (SM.start w A1 texts.length c1)
  generalize tx texts 0 = T0 at *
  generalize tx texts 1 = T1 at *
  generalize texts.length = tl at *
  obtain ⟨num, hnum⟩ : ∃ num, nums.headD 0 = num := ⟨_, rfl⟩
  obtain ⟨body, hbody⟩ : ∃ body, tx bodies 0 = body := ⟨_, rfl⟩
  rw [hnum]
  (try rw [hbody])
  rw [hbody] at hzb
  skip
  obtain ⟨OKP, hok⟩ : ∃ OKP, (2 ≤ tl ∧ 0 ≤ num) = OKP := ⟨_, rfl⟩
  rw [hok]
  have HOKP := Aside0.mk hok
  clear hok
  have HNUM := Aside0.mk hnum
  have HBODY := Aside0.mk hbody
  have HC2 := Aside0.mk hC2
  have HC3 := Aside0.mk hC3
  clear hC1 hl hnum hbody hC2 hC3
  go_enter Tryd.func5, Tryd.ntmps5
  go_upto_if 20 with (fail)
  go_cut [11] (fun v11 wc => v11 = .int .i64 num ∧ wc = ((w.alloc (.cells #[.slice A1 tl c1] 22)).alloc (.cells #[.string ⟨#[]⟩, .slice none 0 0, .string ⟨#[]⟩, .bool false] 27)))
  case first =>
    cases nums with
    | nil =>
      have h0 : (0 : Int) = num := HNUM.out
      subst h0
      go_wp2_with fail
      go_meet
      case rel => exact ⟨rfl, rfl⟩
    | cons n0 nums =>
      have h0 : n0 = num := HNUM.out
      subst h0
      obtain ⟨ad2, hA2, hc2x⟩ := at_enc HC2.out (j := 0) (x := n0) rfl
      subst hA2
      have hc2 : w.cell? ad2 = some (.int .i64 n0) := by simpa [Addr.add] using hc2x
      have hlt2 : ad2.block < w.heap.size := World.block_lt_of_cell? _ _ hc2
      clear hc2x
      have hgt : 0 < (n0 :: nums).length := by simp
      go_wp2_with fail
      go_meet
      case rel => exact ⟨rfl, rfl⟩
  case rest =>
    obtain ⟨rfl, rfl⟩ := hcut
    go_upto_if 26 with (fail)
    go_cut [12] (fun v12 wc => v12 = .string body ∧ wc = ((w.alloc (.cells #[.slice A1 tl c1] 22)).alloc (.cells #[.string ⟨#[]⟩, .slice none 0 0, .string ⟨#[]⟩, .bool false] 27)))
    case first =>
      cases bodies with
      | nil =>
        have h0 : (⟨#[]⟩ : ByteArray) = body := HBODY.out
        subst h0
        go_wp2_with fail
        go_meet
        case rel => exact ⟨rfl, rfl⟩
      | cons b0 bodies =>
        have h0 : b0 = body := HBODY.out
        subst h0
        obtain ⟨ad3, hA3, hc3x⟩ := at_enc HC3.out (j := 0) (x := b0) rfl
        subst hA3
        have hc3 : w.cell? ad3 = some (.string b0) := by simpa [Addr.add] using hc3x
        have hlt3 : ad3.block < w.heap.size := World.block_lt_of_cell? _ _ hc3
        clear hc3x
        have hgt : 0 < (b0 :: bodies).length := by simp
        go_wp2_with fail
        go_meet
        case rel => exact ⟨rfl, rfl⟩
    case rest =>
      obtain ⟨rfl, rfl⟩ := hcut
      generalize nums.length = ln at *
      generalize bodies.length = lb at *
      clear HC2 HC3 HNUM HBODY
      go_wp2_with fail
      by_cases htl : tl < 2
      · have htli : (tl : Int) < 2 := by omega
        go_quiet (fail)
        refine post_gen (Q := Exit.then _ _) (F := fun wz => SM w wz A1 tl c1) (HS.out.below (by repeat (first | (with_reducible exact Below.refl _ _) | (with_reducible apply below_drew) | (with_reducible apply pw_below_drewN) | (with_reducible apply below_alloc)))) ?_
        intro wq hQ
        have HQ := Aside0.mk hQ
        clear hQ
        obtain ⟨q0, q1, q2, q3⟩ := And.intro (blk_cell HQ.out.b8 0) (And.intro (blk_cell HQ.out.b8 1) (And.intro (blk_cell HQ.out.b8 2) (blk_cell HQ.out.b8 3)))
        have s0 := blk_frozen HQ.out.b8 0
        have s1 := blk_frozen HQ.out.b8 1
        have s2 := blk_frozen HQ.out.b8 2
        have s3 := blk_frozen HQ.out.b8 3
        have hltq := blk_lt HQ.out.b8
        have hl2 : w.heap.size < wq.heap.size := by omega
        have hl3 : w.heap.size ≤ wq.heap.size := by omega
        have hl4 : w.heap.size < wq.heap.size + 1 := by omega
        have hn1 : ¬ (w.heap.size = wq.heap.size) := by omega
        have hn2 : ¬ (wq.heap.size = w.heap.size) := by omega
        have hn3 : ¬ (w.heap.size + 1 = wq.heap.size) := by omega
        have hn4 : ¬ (wq.heap.size = w.heap.size + 1) := by omega
        have hn5 : ¬ (w.heap.size = wq.heap.size + 1) := by omega
        have hn6 : ¬ (wq.heap.size + 1 = w.heap.size) := by omega
        have hfz := fun (wx : World) (c : Array Value) (t : TypeId) (k : Nat) => frozen?_alloc_cells wx c t ⟨w.heap.size + 1, k, none⟩
        go_wp2_with fail
        refine bodyPost_ret (results_ct rfl _ _ (w.heap.size + 1) 27 #[.string ⟨#[]⟩, .slice none 0 0, .string ⟨#[]⟩, .bool false] (0, 0) _ rfl (SM.fin HQ.out).1 Tryd.underlying27 rfl (by kernel_rfl)) rfl ?_
        exact ⟨(SM.fin HQ.out).2, .inl rfl⟩
      · have htli : ¬ (tl : Int) < 2 := by omega
        by_cases hneg : num < 0
        · have hnegi : num < 0 := by omega
          go_quiet (fail)
          refine post_gen (Q := Exit.then _ _) (F := fun wz => SM w wz A1 tl c1) (HS.out.below (by repeat (first | (with_reducible exact Below.refl _ _) | (with_reducible apply below_drew) | (with_reducible apply pw_below_drewN) | (with_reducible apply below_alloc)))) ?_
          intro wq hQ
          have HQ := Aside0.mk hQ
          clear hQ
          obtain ⟨q0, q1, q2, q3⟩ := And.intro (blk_cell HQ.out.b8 0) (And.intro (blk_cell HQ.out.b8 1) (And.intro (blk_cell HQ.out.b8 2) (blk_cell HQ.out.b8 3)))
          have s0 := blk_frozen HQ.out.b8 0
          have s1 := blk_frozen HQ.out.b8 1
          have s2 := blk_frozen HQ.out.b8 2
          have s3 := blk_frozen HQ.out.b8 3
          have hltq := blk_lt HQ.out.b8
          have hl2 : w.heap.size < wq.heap.size := by omega
          have hl3 : w.heap.size ≤ wq.heap.size := by omega
          have hl4 : w.heap.size < wq.heap.size + 1 := by omega
          have hn1 : ¬ (w.heap.size = wq.heap.size) := by omega
          have hn2 : ¬ (wq.heap.size = w.heap.size) := by omega
          have hn3 : ¬ (w.heap.size + 1 = wq.heap.size) := by omega
          have hn4 : ¬ (wq.heap.size = w.heap.size + 1) := by omega
          have hn5 : ¬ (w.heap.size = wq.heap.size + 1) := by omega
          have hn6 : ¬ (wq.heap.size + 1 = w.heap.size) := by omega
          have hfz := fun (wx : World) (c : Array Value) (t : TypeId) (k : Nat) => frozen?_alloc_cells wx c t ⟨w.heap.size + 1, k, none⟩
          go_wp2_with fail
          refine bodyPost_ret (results_ct rfl _ _ (w.heap.size + 1) 27 #[.string ⟨#[]⟩, .slice none 0 0, .string ⟨#[]⟩, .bool false] (0, 0) _ rfl (SM.fin HQ.out).1 Tryd.underlying27 rfl (by kernel_rfl)) rfl ?_
          exact ⟨(SM.fin HQ.out).2, .inl rfl⟩
        · have hnegi : ¬ num < 0 := by omega
          go_quiet (fail)
          refine post_gen (Q := Exit.then _ _) (F := fun wz => SM w wz A1 tl c1) (HS.out.below (by repeat (first | (with_reducible exact Below.refl _ _) | (with_reducible apply below_drew) | (with_reducible apply pw_below_drewN) | (with_reducible apply below_alloc)))) ?_
          intro wq hQ
          have HQ := Aside0.mk hQ
          clear hQ
          obtain ⟨q0, q1, q2, q3⟩ := And.intro (blk_cell HQ.out.b8 0) (And.intro (blk_cell HQ.out.b8 1) (And.intro (blk_cell HQ.out.b8 2) (blk_cell HQ.out.b8 3)))
          have s0 := blk_frozen HQ.out.b8 0
          have s1 := blk_frozen HQ.out.b8 1
          have s2 := blk_frozen HQ.out.b8 2
          have s3 := blk_frozen HQ.out.b8 3
          have hltq := blk_lt HQ.out.b8
          have hl2 : w.heap.size < wq.heap.size := by omega
          have hl3 : w.heap.size ≤ wq.heap.size := by omega
          have hl4 : w.heap.size < wq.heap.size + 1 := by omega
          have hn1 : ¬ (w.heap.size = wq.heap.size) := by omega
          have hn2 : ¬ (wq.heap.size = w.heap.size) := by omega
          have hn3 : ¬ (w.heap.size + 1 = wq.heap.size) := by omega
          have hn4 : ¬ (wq.heap.size = w.heap.size + 1) := by omega
          have hn5 : ¬ (w.heap.size = wq.heap.size + 1) := by omega
          have hn6 : ¬ (wq.heap.size + 1 = w.heap.size) := by omega
          have hfz := fun (wx : World) (c : Array Value) (t : TypeId) (k : Nat) => frozen?_alloc_cells wx c t ⟨w.heap.size + 1, k, none⟩
          go_wp2_with fail
          refine (HT0.out _ (HQ.out.below (by repeat (first | (with_reducible exact Below.refl _ _) | (with_reducible apply below_drew) | (with_reducible apply below_alloc))))).mono ?_
          rintro e w8 ⟨rfl, rfl⟩
          go_wp2_with fail
          refine (HT1.out _ (HQ.out.below (by repeat (first | (with_reducible exact Below.refl _ _) | (with_reducible apply below_drew) | (with_reducible apply below_alloc))))).mono ?_
          rintro e w9 ⟨rfl, rfl⟩
          go_wp2_with fail
          refine post_gen (Q := bodyPost _ _ _) (F := fun wf => ∃ v1, wf.heap[w.heap.size + 1]? = some (.cells #[.string ⟨#[83, 85, 66]⟩, v1, .string ⟨#[]⟩, .bool false] 27 (0, 0)) ∧ Below w.heap.size w wf ∧ Kd.string.R 9 wf w.heap.size (fun q => w.heap.size ≤ q) v1 [T0, T1]) ⟨_, (blk_below (SM.fin HQ.out).1 (by repeat (first | (with_reducible exact Below.refl _ _) | (with_reducible apply below_drew) | (with_reducible apply below_alloc)))), (by repeat (first | (with_reducible exact (SM.fin HQ.out).2) | (with_reducible apply below_alloc))), str_row_at (l := [T0, T1]) (by simp) (by rfl) (by simp; omega) (by simp)⟩ ?_
          rintro wf ⟨v1, hbx, hbel, hr⟩
          refine bodyPost_ret (results_ct rfl _ _ (w.heap.size + 1) 27 _ (0, 0) _ rfl hbx Tryd.underlying27 rfl (by kernel_rfl)) rfl ?_
          exact ⟨hbel, .inr ⟨(by rw [← HOKP.out]; exact ⟨by omega, by omega⟩), v1, rfl, hr⟩⟩
end Go.Proofs.YtnbhledkdkchlaaDoor

namespace Go.Proofs.YtnbhledkdkchlaaDoor
set_option linter.unusedVariables false
set_option linter.unusedSimpArgs false
open Go.RowKit Go.Proofs.YtnbhledkdkchlaaDoorW.PrintWords

set_option maxHeartbeats 3000000 in
set_option maxRecDepth 100000 in
theorem sm8_any (A1 A2 A3 : Option Addr) (c1 c2 c3 : Nat) (texts : List ByteArray) (nums : List Int) (bodies : List ByteArray) (w : World) (hl : texts.length ≤ 4)
    (hC1 : Kd.C Kd.string w A1 texts.length texts) (hC2 : Kd.C (Kd.int .i64) w A2 nums.length nums) (hC3 : Kd.C Kd.string w A3 bodies.length bodies) (hln : nums.length ≤ 4) (hlb : bodies.length ≤ 8)
    (hz0 : (tx texts 0).size ≤ 100) (hz1 : (tx texts 1).size ≤ 100) (hzb : (tx bodies 0).size ≤ 100) (hrn : nums.headD 0 < 9223372036854775808) :
    Calls Tryd.prog 5 #[.int .i64 8, .slice A1 texts.length c1, .slice A2 nums.length c2, .slice A3 bodies.length c3] w fun e w' => SmR w ⟨#[82, 68, 89]⟩ [dec ((nums.headD 0).toNat)] ⟨#[]⟩ false (0 ≤ texts.length ∧ 0 < nums.length ∧ 0 ≤ nums.headD 0) e w' := by
  have hmf : ∀ (fn : Fn) (first cap : Array Value) (w : World), (Instr.makeFunc fn first cap).run Tryd.prog w = .ok (.func fn first cap) w := fun _ _ _ _ => rfl
  have HT0 := Aside0.mk (fun (wi : World) (h : SM w wi A1 texts.length c1) => txt9_any 0 w.heap.size A1 c1 texts wi (by decide) h.b5 (Kd.C_below hC1 h.bel) hl)
  have HT1 := Aside0.mk (fun (wi : World) (h : SM w wi A1 texts.length c1) => txt9_any 1 w.heap.size A1 c1 texts wi (by decide) h.b5 (Kd.C_below hC1 h.bel) hl)
  have HS := Aside0.mk (SM.start w A1 texts.length c1)
  generalize tx texts 0 = T0 at *
  generalize tx texts 1 = T1 at *
  generalize texts.length = tl at *
  obtain ⟨num, hnum⟩ : ∃ num, nums.headD 0 = num := ⟨_, rfl⟩
  obtain ⟨body, hbody⟩ : ∃ body, tx bodies 0 = body := ⟨_, rfl⟩
  rw [hnum]
  (try rw [hbody])
  rw [hbody] at hzb
  rw [hnum] at hrn
  obtain ⟨OKP, hok⟩ : ∃ OKP, (0 ≤ tl ∧ 0 < nums.length ∧ 0 ≤ num) = OKP := ⟨_, rfl⟩
  rw [hok]
  have HOKP := Aside0.mk hok
  clear hok
  obtain ⟨D, hD⟩ : ∃ D, dec num.toNat = D := ⟨_, rfl⟩
  rw [hD]
  have HD := Aside0.mk hD
  clear hD
  have HNUM := Aside0.mk hnum
  have HBODY := Aside0.mk hbody
  have HC2 := Aside0.mk hC2
  have HC3 := Aside0.mk hC3
  clear hC1 hl hnum hbody hC2 hC3
  go_enter Tryd.func5, Tryd.ntmps5
  go_upto_if 20 with (fail)
  go_cut [11] (fun v11 wc => v11 = .int .i64 num ∧ wc = ((w.alloc (.cells #[.slice A1 tl c1] 22)).alloc (.cells #[.string ⟨#[]⟩, .slice none 0 0, .string ⟨#[]⟩, .bool false] 27)))
  case first =>
    cases nums with
    | nil =>
      have h0 : (0 : Int) = num := HNUM.out
      subst h0
      go_wp2_with fail
      go_meet
      case rel => exact ⟨rfl, rfl⟩
    | cons n0 nums =>
      have h0 : n0 = num := HNUM.out
      subst h0
      obtain ⟨ad2, hA2, hc2x⟩ := at_enc HC2.out (j := 0) (x := n0) rfl
      subst hA2
      have hc2 : w.cell? ad2 = some (.int .i64 n0) := by simpa [Addr.add] using hc2x
      have hlt2 : ad2.block < w.heap.size := World.block_lt_of_cell? _ _ hc2
      clear hc2x
      have hgt : 0 < (n0 :: nums).length := by simp
      go_wp2_with fail
      go_meet
      case rel => exact ⟨rfl, rfl⟩
  case rest =>
    obtain ⟨rfl, rfl⟩ := hcut
    go_upto_if 26 with (fail)
    go_cut [12] (fun v12 wc => v12 = .string body ∧ wc = ((w.alloc (.cells #[.slice A1 tl c1] 22)).alloc (.cells #[.string ⟨#[]⟩, .slice none 0 0, .string ⟨#[]⟩, .bool false] 27)))
    case first =>
      cases bodies with
      | nil =>
        have h0 : (⟨#[]⟩ : ByteArray) = body := HBODY.out
        subst h0
        go_wp2_with fail
        go_meet
        case rel => exact ⟨rfl, rfl⟩
      | cons b0 bodies =>
        have h0 : b0 = body := HBODY.out
        subst h0
        obtain ⟨ad3, hA3, hc3x⟩ := at_enc HC3.out (j := 0) (x := b0) rfl
        subst hA3
        have hc3 : w.cell? ad3 = some (.string b0) := by simpa [Addr.add] using hc3x
        have hlt3 : ad3.block < w.heap.size := World.block_lt_of_cell? _ _ hc3
        clear hc3x
        have hgt : 0 < (b0 :: bodies).length := by simp
        go_wp2_with fail
        go_meet
        case rel => exact ⟨rfl, rfl⟩
    case rest =>
      obtain ⟨rfl, rfl⟩ := hcut
      generalize nums.length = ln at *
      generalize bodies.length = lb at *
      clear HC2 HC3 HNUM HBODY
      go_wp2_with fail
      have htli : ¬ (tl : Int) < 0 := by omega
      by_cases hnz : ln = 0
      · have hnzi : (ln : Int) = 0 := by omega
        go_quiet (fail)
        refine post_gen (Q := Exit.then _ _) (F := fun wz => SM w wz A1 tl c1) (HS.out.below (by repeat (first | (with_reducible exact Below.refl _ _) | (with_reducible apply below_drew) | (with_reducible apply pw_below_drewN) | (with_reducible apply below_alloc)))) ?_
        intro wq hQ
        have HQ := Aside0.mk hQ
        clear hQ
        obtain ⟨q0, q1, q2, q3⟩ := And.intro (blk_cell HQ.out.b8 0) (And.intro (blk_cell HQ.out.b8 1) (And.intro (blk_cell HQ.out.b8 2) (blk_cell HQ.out.b8 3)))
        have s0 := blk_frozen HQ.out.b8 0
        have s1 := blk_frozen HQ.out.b8 1
        have s2 := blk_frozen HQ.out.b8 2
        have s3 := blk_frozen HQ.out.b8 3
        have hltq := blk_lt HQ.out.b8
        have hl2 : w.heap.size < wq.heap.size := by omega
        have hl3 : w.heap.size ≤ wq.heap.size := by omega
        have hl4 : w.heap.size < wq.heap.size + 1 := by omega
        have hn1 : ¬ (w.heap.size = wq.heap.size) := by omega
        have hn2 : ¬ (wq.heap.size = w.heap.size) := by omega
        have hn3 : ¬ (w.heap.size + 1 = wq.heap.size) := by omega
        have hn4 : ¬ (wq.heap.size = w.heap.size + 1) := by omega
        have hn5 : ¬ (w.heap.size = wq.heap.size + 1) := by omega
        have hn6 : ¬ (wq.heap.size + 1 = w.heap.size) := by omega
        have hfz := fun (wx : World) (c : Array Value) (t : TypeId) (k : Nat) => frozen?_alloc_cells wx c t ⟨w.heap.size + 1, k, none⟩
        go_wp2_with fail
        refine bodyPost_ret (results_ct rfl _ _ (w.heap.size + 1) 27 #[.string ⟨#[]⟩, .slice none 0 0, .string ⟨#[]⟩, .bool false] (0, 0) _ rfl (SM.fin HQ.out).1 Tryd.underlying27 rfl (by kernel_rfl)) rfl ?_
        exact ⟨(SM.fin HQ.out).2, .inl rfl⟩
      · have hnzi : ¬ (ln : Int) = 0 := by omega
        by_cases hneg : num < 0
        · have hnegi : num < 0 := by omega
          go_quiet (fail)
          refine post_gen (Q := Exit.then _ _) (F := fun wz => SM w wz A1 tl c1) (HS.out.below (by repeat (first | (with_reducible exact Below.refl _ _) | (with_reducible apply below_drew) | (with_reducible apply pw_below_drewN) | (with_reducible apply below_alloc)))) ?_
          intro wq hQ
          have HQ := Aside0.mk hQ
          clear hQ
          obtain ⟨q0, q1, q2, q3⟩ := And.intro (blk_cell HQ.out.b8 0) (And.intro (blk_cell HQ.out.b8 1) (And.intro (blk_cell HQ.out.b8 2) (blk_cell HQ.out.b8 3)))
          have s0 := blk_frozen HQ.out.b8 0
          have s1 := blk_frozen HQ.out.b8 1
          have s2 := blk_frozen HQ.out.b8 2
          have s3 := blk_frozen HQ.out.b8 3
          have hltq := blk_lt HQ.out.b8
          have hl2 : w.heap.size < wq.heap.size := by omega
          have hl3 : w.heap.size ≤ wq.heap.size := by omega
          have hl4 : w.heap.size < wq.heap.size + 1 := by omega
          have hn1 : ¬ (w.heap.size = wq.heap.size) := by omega
          have hn2 : ¬ (wq.heap.size = w.heap.size) := by omega
          have hn3 : ¬ (w.heap.size + 1 = wq.heap.size) := by omega
          have hn4 : ¬ (wq.heap.size = w.heap.size + 1) := by omega
          have hn5 : ¬ (w.heap.size = wq.heap.size + 1) := by omega
          have hn6 : ¬ (wq.heap.size + 1 = w.heap.size) := by omega
          have hfz := fun (wx : World) (c : Array Value) (t : TypeId) (k : Nat) => frozen?_alloc_cells wx c t ⟨w.heap.size + 1, k, none⟩
          go_wp2_with fail
          refine bodyPost_ret (results_ct rfl _ _ (w.heap.size + 1) 27 #[.string ⟨#[]⟩, .slice none 0 0, .string ⟨#[]⟩, .bool false] (0, 0) _ rfl (SM.fin HQ.out).1 Tryd.underlying27 rfl (by kernel_rfl)) rfl ?_
          exact ⟨(SM.fin HQ.out).2, .inl rfl⟩
        · have hnegi : ¬ num < 0 := by omega
          obtain ⟨m, hm⟩ : ∃ m : Nat, num = (m : Int) := ⟨num.toNat, by omega⟩
          subst hm
          obtain ⟨q, hq⟩ : ∃ q : Nat, m = q := ⟨_, rfl⟩
          have hqn : q < 9223372036854775808 := by omega
          have hq1 : (m : Int) = (q : Int) := by rw [hq]
          have hq2 : wrap64 (q : Int) = q := (nat_i64 q hqn).2
          have hq3 : IntKind.i64.wrap (q : Int) = q := (nat_i64 q hqn).1
          have hdq : dec q = D := by rw [← HD.out, Int.toNat_natCast, hq]
          have hdec := fun wi => decimal_any q hqn wi
          have hzd := dec_size q (by omega)
          rw [hdq] at hzd
          simp only [hdq] at hdec
          have HDEC := Aside0.mk hdec
          clear hdec hdq
          have hm0 : ¬ (m : Int) < 0 := by omega
          have hq0 : ¬ (q : Int) < 0 := by omega
          clear hq hqn hrn
          go_quiet (fail)
          refine post_gen (Q := Exit.then _ _) (F := fun wz => SM w wz A1 tl c1) (HS.out.below (by repeat (first | (with_reducible exact Below.refl _ _) | (with_reducible apply below_drew) | (with_reducible apply pw_below_drewN) | (with_reducible apply below_alloc)))) ?_
          intro wq hQ
          have HQ := Aside0.mk hQ
          clear hQ
          obtain ⟨q0, q1, q2, q3⟩ := And.intro (blk_cell HQ.out.b8 0) (And.intro (blk_cell HQ.out.b8 1) (And.intro (blk_cell HQ.out.b8 2) (blk_cell HQ.out.b8 3)))
          have s0 := blk_frozen HQ.out.b8 0
          have s1 := blk_frozen HQ.out.b8 1
          have s2 := blk_frozen HQ.out.b8 2
          have s3 := blk_frozen HQ.out.b8 3
          have hltq := blk_lt HQ.out.b8
          have hl2 : w.heap.size < wq.heap.size := by omega
          have hl3 : w.heap.size ≤ wq.heap.size := by omega
          have hl4 : w.heap.size < wq.heap.size + 1 := by omega
          have hn1 : ¬ (w.heap.size = wq.heap.size) := by omega
          have hn2 : ¬ (wq.heap.size = w.heap.size) := by omega
          have hn3 : ¬ (w.heap.size + 1 = wq.heap.size) := by omega
          have hn4 : ¬ (wq.heap.size = w.heap.size + 1) := by omega
          have hn5 : ¬ (w.heap.size = wq.heap.size + 1) := by omega
          have hn6 : ¬ (wq.heap.size + 1 = w.heap.size) := by omega
          have hfz := fun (wx : World) (c : Array Value) (t : TypeId) (k : Nat) => frozen?_alloc_cells wx c t ⟨w.heap.size + 1, k, none⟩
          go_wp2_with fail
          refine (HDEC.out _).mono ?_
          rintro e w9 ⟨rfl, hb⟩
          have HQ9 := Aside0.mk (HQ.out.below (Below.trans (b := _) (by repeat (first | (with_reducible exact Below.refl _ _) | (with_reducible apply below_drew) | (with_reducible apply below_alloc))) (hb.mono (by simp; omega))))
          have hb14 : w9.heap[wq.heap.size + 1]? = some (.cells #[.string ⟨#[82, 68, 89]⟩, .slice none 0 0, .string ⟨#[]⟩, .bool false] 27 (0, 0)) := (hb.block _ (by simp)).trans (alloc_new_at (by simp))
          have hltz := hb.size
          rw [World.size_alloc, World.size_alloc] at hltz
          have hfar : w.heap.size + 2 ≤ wq.heap.size + 1 := by omega
          clear hb q0 q1 q2 q3 s0 s1 s2 s3
          obtain ⟨q0, q1, q2, q3⟩ := And.intro (blk_cell HQ9.out.b8 0) (And.intro (blk_cell HQ9.out.b8 1) (And.intro (blk_cell HQ9.out.b8 2) (blk_cell HQ9.out.b8 3)))
          have s0 := blk_frozen HQ9.out.b8 0
          have s1 := blk_frozen HQ9.out.b8 1
          have s2 := blk_frozen HQ9.out.b8 2
          have s3 := blk_frozen HQ9.out.b8 3
          obtain ⟨r0, r1, r2, r3⟩ := And.intro (blk_cell hb14 0) (And.intro (blk_cell hb14 1) (And.intro (blk_cell hb14 2) (blk_cell hb14 3)))
          have z0 := blk_frozen hb14 0
          have z1 := blk_frozen hb14 1
          have z2 := blk_frozen hb14 2
          have z3 := blk_frozen hb14 3
          have y1 : w.heap.size + 1 < w9.heap.size := by omega
          have y2 : wq.heap.size + 1 < w9.heap.size := by omega
          have y3 : w.heap.size < w9.heap.size := by omega
          have y4 : wq.heap.size < w9.heap.size := by omega
          have y5 : w.heap.size ≤ w9.heap.size := by omega
          have y6 : wq.heap.size ≤ w9.heap.size := by omega
          have y7 : ¬ (w.heap.size + 1 = w9.heap.size) := by omega
          have y8 : ¬ (w9.heap.size = w.heap.size + 1) := by omega
          have y9 : ¬ (wq.heap.size + 1 = w9.heap.size) := by omega
          have y10 : ¬ (w9.heap.size = wq.heap.size + 1) := by omega
          clear hb14 hfz
          have hfz := fun (wx : World) (c : Array Value) (t : TypeId) (k : Nat) => frozen?_alloc_cells wx c t ⟨w.heap.size + 1, k, none⟩
          have hfz2 := fun (wx : World) (c : Array Value) (t : TypeId) (k : Nat) => frozen?_alloc_cells wx c t ⟨wq.heap.size + 1, k, none⟩
          go_wp2_with fail
          refine post_gen (Q := bodyPost _ _ _) (F := fun wf => ∃ v1, wf.heap[w.heap.size + 1]? = some (.cells #[.string ⟨#[82, 68, 89]⟩, v1, .string ⟨#[]⟩, .bool false] 27 (0, 0)) ∧ Below w.heap.size w wf ∧ Kd.string.R 9 wf w.heap.size (fun q => w.heap.size ≤ q) v1 [D]) ⟨_, (blk_below (SM.fin (SM.far HQ9.out hfar)).1 (by repeat (first | (with_reducible exact Below.refl _ _) | (with_reducible apply below_drew) | (with_reducible apply below_alloc)))), (by repeat (first | (with_reducible exact (SM.fin (SM.far HQ9.out hfar)).2) | (with_reducible apply below_alloc))), str_row_at (l := [D]) (by simp) (by rfl) (by simp; omega) (by simp)⟩ ?_
          rintro wf ⟨v1, hbx, hbel, hr⟩
          refine bodyPost_ret (results_ct rfl _ _ (w.heap.size + 1) 27 _ (0, 0) _ rfl hbx Tryd.underlying27 rfl (by kernel_rfl)) rfl ?_
          exact ⟨hbel, .inr ⟨(by rw [← HOKP.out]; exact ⟨by omega, by omega, by omega⟩), v1, rfl, hr⟩⟩
end Go.Proofs.YtnbhledkdkchlaaDoor
