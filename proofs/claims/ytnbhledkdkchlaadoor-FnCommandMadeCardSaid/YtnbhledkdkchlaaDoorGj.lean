/- spec.Made: way 9. (seat r2.D; printed by gen_cs.py) spec.Made: way 10. (seat r2.D; printed by gen_cs.py) spec.Made: way 11. (seat r2.D; printed by gen_cs.py) -/
import Derived.Test.YtnbhledkdkchlaaDoorGc
import Derived.RowKit3
namespace Go.Proofs.YtnbhledkdkchlaaDoor
set_option linter.unusedVariables false
set_option linter.unusedSimpArgs false
open Go.RowKit Go.Proofs.YtnbhledkdkchlaaDoorW.PrintWords

set_option maxHeartbeats 3000000 in
set_option maxRecDepth 100000 in
theorem sm9_any (A1 A2 A3 : Option Addr) (c1 c2 c3 : Nat) (texts : List ByteArray) (nums : List Int) (bodies : List ByteArray) (w : World) (hl : texts.length ≤ 4)
    (hC1 : Kd.C Kd.string w A1 texts.length texts) (hC2 : Kd.C (Kd.int .i64) w A2 nums.length nums) (hC3 : Kd.C Kd.string w A3 bodies.length bodies) (hln : nums.length ≤ 4) (hlb : bodies.length ≤ 8)
    (hz0 : (tx texts 0).size ≤ 100) (hz1 : (tx texts 1).size ≤ 100) (hzb : (tx bodies 0).size ≤ 100) :
    Calls Tryd.prog 5 #[.int .i64 9, .slice A1 texts.length c1, .slice A2 nums.length c2, .slice A3 bodies.length c3] w fun e w' => SmR w ⟨#[70, 73, 78]⟩ [tx texts 0] ⟨#[]⟩ false (1 ≤ texts.length ∧ 0 ≤ nums.headD 0 ∧ (tx texts 0).size = 16) e w' := by
  have hmf : ∀ (fn : Fn) (first cap : Array Value) (w : World), (Instr.makeFunc fn first cap).run Tryd.prog w = .ok (.func fn first cap) w := fun _ _ _ _ => rfl
  have HT0 := Aside0.mk (fun (wi : World) (h : SM w wi A1 texts.length c1) => txt9_any 0 w.heap.size A1 c1 texts wi (by decide) h.b5 (Kd.C_below hC1 h.bel) hl)
  have HT1 := Aside0.mk (fun (wi : World) (h : SM w wi A1 texts.length c1) => txt9_any 1 w.heap.size A1 c1 texts wi (by decide) h.b5 (Kd.C_below hC1 h.bel) hl)
  have HS := Aside0.mk (SM.start w A1 texts.length c1)
  generalize tx texts 0 = T0 at *
  generalize tx texts 1 = T1 at *
  generalize texts.length = tl at *
  obtain ⟨num, hnum⟩ : ∃ num, nums.headD 0 = num := ⟨_, rfl⟩
  obtain ⟨body, hbody⟩ : ∃ body, tx bodies 0 = body := ⟨_, rfl⟩
  rw [hnum]
  (try rw [hbody])
  rw [hbody] at hzb
  skip
  obtain ⟨OKP, hok⟩ : ∃ OKP, (1 ≤ tl ∧ 0 ≤ num ∧ T0.size = 16) = OKP := ⟨_, rfl⟩
  rw [hok]
  have HOKP := Aside0.mk hok
  clear hok
  have HNUM := Aside0.mk hnum
  have HBODY := Aside0.mk hbody
  have HC2 := Aside0.mk hC2
  have HC3 := Aside0.mk hC3
  clear hC1 hl hnum hbody hC2 hC3
  go_enter Tryd.func5, Tryd.ntmps5
  go_upto_if 20 with (fail)
  go_cut [11] (fun v11 wc => v11 = .int .i64 num ∧ wc = ((w.alloc (.cells #[.slice A1 tl c1] 22)).alloc (.cells #[.string ⟨#[]⟩, .slice none 0 0, .string ⟨#[]⟩, .bool false] 27)))
  case first =>
    cases nums with
    | nil =>
      have h0 : (0 : Int) = num := HNUM.out
      subst h0
      go_wp2_with fail
      go_meet
      case rel => exact ⟨rfl, rfl⟩
    | cons n0 nums =>
      have h0 : n0 = num := HNUM.out
      subst h0
      obtain ⟨ad2, hA2, hc2x⟩ := at_enc HC2.out (j := 0) (x := n0) rfl
      subst hA2
      have hc2 : w.cell? ad2 = some (.int .i64 n0) := by simpa [Addr.add] using hc2x
      have hlt2 : ad2.block < w.heap.size := World.block_lt_of_cell? _ _ hc2
      clear hc2x
      have hgt : 0 < (n0 :: nums).length := by simp
      go_wp2_with fail
      go_meet
      case rel => exact ⟨rfl, rfl⟩
  case rest =>
    obtain ⟨rfl, rfl⟩ := hcut
    go_upto_if 26 with (fail)
    go_cut [12] (fun v12 wc => v12 = .string body ∧ wc = ((w.alloc (.cells #[.slice A1 tl c1] 22)).alloc (.cells #[.string ⟨#[]⟩, .slice none 0 0, .string ⟨#[]⟩, .bool false] 27)))
    case first =>
      cases bodies with
      | nil =>
        have h0 : (⟨#[]⟩ : ByteArray) = body := HBODY.out
        subst h0
        go_wp2_with fail
        go_meet
        case rel => exact ⟨rfl, rfl⟩
      | cons b0 bodies =>
        have h0 : b0 = body := HBODY.out
        subst h0
        obtain ⟨ad3, hA3, hc3x⟩ := at_enc HC3.out (j := 0) (x := b0) rfl
        subst hA3
        have hc3 : w.cell? ad3 = some (.string b0) := by simpa [Addr.add] using hc3x
        have hlt3 : ad3.block < w.heap.size := World.block_lt_of_cell? _ _ hc3
        clear hc3x
        have hgt : 0 < (b0 :: bodies).length := by simp
        go_wp2_with fail
        go_meet
        case rel => exact ⟨rfl, rfl⟩
    case rest =>
      obtain ⟨rfl, rfl⟩ := hcut
      generalize nums.length = ln at *
      generalize bodies.length = lb at *
      clear HC2 HC3 HNUM HBODY
      go_wp2_with fail
      by_cases htl : tl < 1
      · have htli : (tl : Int) < 1 := by omega
        go_quiet (fail)
        refine post_gen (Q := Exit.then _ _) (F := fun wz => SM w wz A1 tl c1) (HS.out.below (by repeat (first | (with_reducible exact Below.refl _ _) | (with_reducible apply below_drew) | (with_reducible apply pw_below_drewN) | (with_reducible apply below_alloc)))) ?_
        intro wq hQ
        have HQ := Aside0.mk hQ
        clear hQ
        obtain ⟨q0, q1, q2, q3⟩ := And.intro (blk_cell HQ.out.b8 0) (And.intro (blk_cell HQ.out.b8 1) (And.intro (blk_cell HQ.out.b8 2) (blk_cell HQ.out.b8 3)))
        have s0 := blk_frozen HQ.out.b8 0
        have s1 := blk_frozen HQ.out.b8 1
        have s2 := blk_frozen HQ.out.b8 2
        have s3 := blk_frozen HQ.out.b8 3
        have hltq := blk_lt HQ.out.b8
        have hl2 : w.heap.size < wq.heap.size := by omega
        have hl3 : w.heap.size ≤ wq.heap.size := by omega
        have hl4 : w.heap.size < wq.heap.size + 1 := by omega
        have hn1 : ¬ (w.heap.size = wq.heap.size) := by omega
        have hn2 : ¬ (wq.heap.size = w.heap.size) := by omega
        have hn3 : ¬ (w.heap.size + 1 = wq.heap.size) := by omega
        have hn4 : ¬ (wq.heap.size = w.heap.size + 1) := by omega
        have hn5 : ¬ (w.heap.size = wq.heap.size + 1) := by omega
        have hn6 : ¬ (wq.heap.size + 1 = w.heap.size) := by omega
        have hfz := fun (wx : World) (c : Array Value) (t : TypeId) (k : Nat) => frozen?_alloc_cells wx c t ⟨w.heap.size + 1, k, none⟩
        go_wp2_with fail
        refine bodyPost_ret (results_ct rfl _ _ (w.heap.size + 1) 27 #[.string ⟨#[]⟩, .slice none 0 0, .string ⟨#[]⟩, .bool false] (0, 0) _ rfl (SM.fin HQ.out).1 Tryd.underlying27 rfl (by kernel_rfl)) rfl ?_
        exact ⟨(SM.fin HQ.out).2, .inl rfl⟩
      · have htli : ¬ (tl : Int) < 1 := by omega
        by_cases hneg : num < 0
        · have hnegi : num < 0 := by omega
          go_quiet (fail)
          refine post_gen (Q := Exit.then _ _) (F := fun wz => SM w wz A1 tl c1) (HS.out.below (by repeat (first | (with_reducible exact Below.refl _ _) | (with_reducible apply below_drew) | (with_reducible apply pw_below_drewN) | (with_reducible apply below_alloc)))) ?_
          intro wq hQ
          have HQ := Aside0.mk hQ
          clear hQ
          obtain ⟨q0, q1, q2, q3⟩ := And.intro (blk_cell HQ.out.b8 0) (And.intro (blk_cell HQ.out.b8 1) (And.intro (blk_cell HQ.out.b8 2) (blk_cell HQ.out.b8 3)))
          have s0 := blk_frozen HQ.out.b8 0
          have s1 := blk_frozen HQ.out.b8 1
          have s2 := blk_frozen HQ.out.b8 2
          have s3 := blk_frozen HQ.out.b8 3
          have hltq := blk_lt HQ.out.b8
          have hl2 : w.heap.size < wq.heap.size := by omega
          have hl3 : w.heap.size ≤ wq.heap.size := by omega
          have hl4 : w.heap.size < wq.heap.size + 1 := by omega
          have hn1 : ¬ (w.heap.size = wq.heap.size) := by omega
          have hn2 : ¬ (wq.heap.size = w.heap.size) := by omega
          have hn3 : ¬ (w.heap.size + 1 = wq.heap.size) := by omega
          have hn4 : ¬ (wq.heap.size = w.heap.size + 1) := by omega
          have hn5 : ¬ (w.heap.size = wq.heap.size + 1) := by omega
          have hn6 : ¬ (wq.heap.size + 1 = w.heap.size) := by omega
          have hfz := fun (wx : World) (c : Array Value) (t : TypeId) (k : Nat) => frozen?_alloc_cells wx c t ⟨w.heap.size + 1, k, none⟩
          go_wp2_with fail
          refine bodyPost_ret (results_ct rfl _ _ (w.heap.size + 1) 27 #[.string ⟨#[]⟩, .slice none 0 0, .string ⟨#[]⟩, .bool false] (0, 0) _ rfl (SM.fin HQ.out).1 Tryd.underlying27 rfl (by kernel_rfl)) rfl ?_
          exact ⟨(SM.fin HQ.out).2, .inl rfl⟩
        · have hnegi : ¬ num < 0 := by omega
          go_quiet (fail)
          refine post_gen (Q := Exit.then _ _) (F := fun wz => SM w wz A1 tl c1) (HS.out.below (by repeat (first | (with_reducible exact Below.refl _ _) | (with_reducible apply below_drew) | (with_reducible apply pw_below_drewN) | (with_reducible apply below_alloc)))) ?_
          intro wq hQ
          have HQ := Aside0.mk hQ
          clear hQ
          obtain ⟨q0, q1, q2, q3⟩ := And.intro (blk_cell HQ.out.b8 0) (And.intro (blk_cell HQ.out.b8 1) (And.intro (blk_cell HQ.out.b8 2) (blk_cell HQ.out.b8 3)))
          have s0 := blk_frozen HQ.out.b8 0
          have s1 := blk_frozen HQ.out.b8 1
          have s2 := blk_frozen HQ.out.b8 2
          have s3 := blk_frozen HQ.out.b8 3
          have hltq := blk_lt HQ.out.b8
          have hl2 : w.heap.size < wq.heap.size := by omega
          have hl3 : w.heap.size ≤ wq.heap.size := by omega
          have hl4 : w.heap.size < wq.heap.size + 1 := by omega
          have hn1 : ¬ (w.heap.size = wq.heap.size) := by omega
          have hn2 : ¬ (wq.heap.size = w.heap.size) := by omega
          have hn3 : ¬ (w.heap.size + 1 = wq.heap.size) := by omega
          have hn4 : ¬ (wq.heap.size = w.heap.size + 1) := by omega
          have hn5 : ¬ (w.heap.size = wq.heap.size + 1) := by omega
          have hn6 : ¬ (wq.heap.size + 1 = w.heap.size) := by omega
          have hfz := fun (wx : World) (c : Array Value) (t : TypeId) (k : Nat) => frozen?_alloc_cells wx c t ⟨w.heap.size + 1, k, none⟩
          go_wp2_with fail
          refine (HT0.out _ (HQ.out.below (by repeat (first | (with_reducible exact Below.refl _ _) | (with_reducible apply below_drew) | (with_reducible apply below_alloc))))).mono ?_
          rintro e w8 ⟨rfl, rfl⟩
          by_cases hid : T0.size = 16
          · have hidi : (T0.size : Int) = 16 := by omega
            have HID := Aside0.mk hid
            go_wp2_with fail
            refine (HT0.out _ (HQ.out.below (by repeat (first | (with_reducible exact Below.refl _ _) | (with_reducible apply below_drew) | (with_reducible apply below_alloc))))).mono ?_
            rintro e w8 ⟨rfl, rfl⟩
            go_wp2_with fail
            refine post_gen (Q := bodyPost _ _ _) (F := fun wf => ∃ v1, wf.heap[w.heap.size + 1]? = some (.cells #[.string ⟨#[70, 73, 78]⟩, v1, .string ⟨#[]⟩, .bool false] 27 (0, 0)) ∧ Below w.heap.size w wf ∧ Kd.string.R 9 wf w.heap.size (fun q => w.heap.size ≤ q) v1 [T0]) ⟨_, (blk_below (SM.fin HQ.out).1 (by repeat (first | (with_reducible exact Below.refl _ _) | (with_reducible apply below_drew) | (with_reducible apply below_alloc)))), (by repeat (first | (with_reducible exact (SM.fin HQ.out).2) | (with_reducible apply below_alloc))), str_row_at (l := [T0]) (by simp) (by rfl) (by simp; omega) (by simp)⟩ ?_
            rintro wf ⟨v1, hbx, hbel, hr⟩
            refine bodyPost_ret (results_ct rfl _ _ (w.heap.size + 1) 27 _ (0, 0) _ rfl hbx Tryd.underlying27 rfl (by kernel_rfl)) rfl ?_
            exact ⟨hbel, .inr ⟨(by rw [← HOKP.out]; exact ⟨by omega, by omega, HID.out⟩), v1, rfl, hr⟩⟩
          · have hidi : ¬ (T0.size : Int) = 16 := by omega
            go_wp2_with fail
            refine bodyPost_ret (results_ct rfl _ _ (w.heap.size + 1) 27 #[.string ⟨#[]⟩, .slice none 0 0, .string ⟨#[]⟩, .bool false] (0, 0) _ rfl (SM.fin HQ.out).1 Tryd.underlying27 rfl (by kernel_rfl)) rfl ?_
            exact ⟨(SM.fin HQ.out).2, .inl rfl⟩
end Go.Proofs.YtnbhledkdkchlaaDoor

namespace Go.Proofs.YtnbhledkdkchlaaDoor
set_option linter.unusedVariables false
set_option linter.unusedSimpArgs false
open Go.RowKit Go.Proofs.YtnbhledkdkchlaaDoorW.PrintWords

set_option maxHeartbeats 3000000 in
set_option maxRecDepth 100000 in
theorem sm10_any (A1 A2 A3 : Option Addr) (c1 c2 c3 : Nat) (texts : List ByteArray) (nums : List Int) (bodies : List ByteArray) (w : World) (hl : texts.length ≤ 4)
    (hC1 : Kd.C Kd.string w A1 texts.length texts) (hC2 : Kd.C (Kd.int .i64) w A2 nums.length nums) (hC3 : Kd.C Kd.string w A3 bodies.length bodies) (hln : nums.length ≤ 4) (hlb : bodies.length ≤ 8)
    (hz0 : (tx texts 0).size ≤ 100) (hz1 : (tx texts 1).size ≤ 100) (hzb : (tx bodies 0).size ≤ 100) (hrn : nums.headD 0 < 9223372036854775808) :
    Calls Tryd.prog 5 #[.int .i64 10, .slice A1 texts.length c1, .slice A2 nums.length c2, .slice A3 bodies.length c3] w fun e w' => SmR w ⟨#[82, 69, 81]⟩ [tx texts 0, dec ((nums.headD 0).toNat / 1000000)] ⟨#[]⟩ false (1 ≤ texts.length ∧ 0 < nums.length ∧ 0 ≤ nums.headD 0 ∧ (tx texts 0).size = 16) e w' := by
  have hmf : ∀ (fn : Fn) (first cap : Array Value) (w : World), (Instr.makeFunc fn first cap).run Tryd.prog w = .ok (.func fn first cap) w := fun _ _ _ _ => rfl
  have HT0 := Aside0.mk (fun (wi : World) (h : SM w wi A1 texts.length c1) => txt9_any 0 w.heap.size A1 c1 texts wi (by decide) h.b5 (Kd.C_below hC1 h.bel) hl)
  have HT1 := Aside0.mk (fun (wi : World) (h : SM w wi A1 texts.length c1) => txt9_any 1 w.heap.size A1 c1 texts wi (by decide) h.b5 (Kd.C_below hC1 h.bel) hl)
  have HS := Aside0.mk (SM.start w A1 texts.length c1)
  generalize tx texts 0 = T0 at *
  generalize tx texts 1 = T1 at *
  generalize texts.length = tl at *
  obtain ⟨num, hnum⟩ : ∃ num, nums.headD 0 = num := ⟨_, rfl⟩
  obtain ⟨body, hbody⟩ : ∃ body, tx bodies 0 = body := ⟨_, rfl⟩
  rw [hnum]
  (try rw [hbody])
  rw [hbody] at hzb
  rw [hnum] at hrn
  obtain ⟨OKP, hok⟩ : ∃ OKP, (1 ≤ tl ∧ 0 < nums.length ∧ 0 ≤ num ∧ T0.size = 16) = OKP := ⟨_, rfl⟩
  rw [hok]
  have HOKP := Aside0.mk hok
  clear hok
  obtain ⟨D, hD⟩ : ∃ D, dec (num.toNat / 1000000) = D := ⟨_, rfl⟩
  rw [hD]
  have HD := Aside0.mk hD
  clear hD
  have HNUM := Aside0.mk hnum
  have HBODY := Aside0.mk hbody
  have HC2 := Aside0.mk hC2
  have HC3 := Aside0.mk hC3
  clear hC1 hl hnum hbody hC2 hC3
  go_enter Tryd.func5, Tryd.ntmps5
  go_upto_if 20 with (fail)
  go_cut [11] (fun v11 wc => v11 = .int .i64 num ∧ wc = ((w.alloc (.cells #[.slice A1 tl c1] 22)).alloc (.cells #[.string ⟨#[]⟩, .slice none 0 0, .string ⟨#[]⟩, .bool false] 27)))
  case first =>
    cases nums with
    | nil =>
      have h0 : (0 : Int) = num := HNUM.out
      subst h0
      go_wp2_with fail
      go_meet
      case rel => exact ⟨rfl, rfl⟩
    | cons n0 nums =>
      have h0 : n0 = num := HNUM.out
      subst h0
      obtain ⟨ad2, hA2, hc2x⟩ := at_enc HC2.out (j := 0) (x := n0) rfl
      subst hA2
      have hc2 : w.cell? ad2 = some (.int .i64 n0) := by simpa [Addr.add] using hc2x
      have hlt2 : ad2.block < w.heap.size := World.block_lt_of_cell? _ _ hc2
      clear hc2x
      have hgt : 0 < (n0 :: nums).length := by simp
      go_wp2_with fail
      go_meet
      case rel => exact ⟨rfl, rfl⟩
  case rest =>
    obtain ⟨rfl, rfl⟩ := hcut
    go_upto_if 26 with (fail)
    go_cut [12] (fun v12 wc => v12 = .string body ∧ wc = ((w.alloc (.cells #[.slice A1 tl c1] 22)).alloc (.cells #[.string ⟨#[]⟩, .slice none 0 0, .string ⟨#[]⟩, .bool false] 27)))
    case first =>
      cases bodies with
      | nil =>
        have h0 : (⟨#[]⟩ : ByteArray) = body := HBODY.out
        subst h0
        go_wp2_with fail
        go_meet
        case rel => exact ⟨rfl, rfl⟩
      | cons b0 bodies =>
        have h0 : b0 = body := HBODY.out
        subst h0
        obtain ⟨ad3, hA3, hc3x⟩ := at_enc HC3.out (j := 0) (x := b0) rfl
        subst hA3
        have hc3 : w.cell? ad3 = some (.string b0) := by simpa [Addr.add] using hc3x
        have hlt3 : ad3.block < w.heap.size := World.block_lt_of_cell? _ _ hc3
        clear hc3x
        have hgt : 0 < (b0 :: bodies).length := by simp
        go_wp2_with fail
        go_meet
        case rel => exact ⟨rfl, rfl⟩
    case rest =>
      obtain ⟨rfl, rfl⟩ := hcut
      generalize nums.length = ln at *
      generalize bodies.length = lb at *
      clear HC2 HC3 HNUM HBODY
      go_wp2_with fail
      by_cases htl : tl < 1
      · have htli : (tl : Int) < 1 := by omega
        go_quiet (fail)
        refine post_gen (Q := Exit.then _ _) (F := fun wz => SM w wz A1 tl c1) (HS.out.below (by repeat (first | (with_reducible exact Below.refl _ _) | (with_reducible apply below_drew) | (with_reducible apply pw_below_drewN) | (with_reducible apply below_alloc)))) ?_
        intro wq hQ
        have HQ := Aside0.mk hQ
        clear hQ
        obtain ⟨q0, q1, q2, q3⟩ := And.intro (blk_cell HQ.out.b8 0) (And.intro (blk_cell HQ.out.b8 1) (And.intro (blk_cell HQ.out.b8 2) (blk_cell HQ.out.b8 3)))
        have s0 := blk_frozen HQ.out.b8 0
        have s1 := blk_frozen HQ.out.b8 1
        have s2 := blk_frozen HQ.out.b8 2
        have s3 := blk_frozen HQ.out.b8 3
        have hltq := blk_lt HQ.out.b8
        have hl2 : w.heap.size < wq.heap.size := by omega
        have hl3 : w.heap.size ≤ wq.heap.size := by omega
        have hl4 : w.heap.size < wq.heap.size + 1 := by omega
        have hn1 : ¬ (w.heap.size = wq.heap.size) := by omega
        have hn2 : ¬ (wq.heap.size = w.heap.size) := by omega
        have hn3 : ¬ (w.heap.size + 1 = wq.heap.size) := by omega
        have hn4 : ¬ (wq.heap.size = w.heap.size + 1) := by omega
        have hn5 : ¬ (w.heap.size = wq.heap.size + 1) := by omega
        have hn6 : ¬ (wq.heap.size + 1 = w.heap.size) := by omega
        have hfz := fun (wx : World) (c : Array Value) (t : TypeId) (k : Nat) => frozen?_alloc_cells wx c t ⟨w.heap.size + 1, k, none⟩
        go_wp2_with fail
        refine bodyPost_ret (results_ct rfl _ _ (w.heap.size + 1) 27 #[.string ⟨#[]⟩, .slice none 0 0, .string ⟨#[]⟩, .bool false] (0, 0) _ rfl (SM.fin HQ.out).1 Tryd.underlying27 rfl (by kernel_rfl)) rfl ?_
        exact ⟨(SM.fin HQ.out).2, .inl rfl⟩
      · have htli : ¬ (tl : Int) < 1 := by omega
        by_cases hnz : ln = 0
        · have hnzi : (ln : Int) = 0 := by omega
          go_quiet (fail)
          refine post_gen (Q := Exit.then _ _) (F := fun wz => SM w wz A1 tl c1) (HS.out.below (by repeat (first | (with_reducible exact Below.refl _ _) | (with_reducible apply below_drew) | (with_reducible apply pw_below_drewN) | (with_reducible apply below_alloc)))) ?_
          intro wq hQ
          have HQ := Aside0.mk hQ
          clear hQ
          obtain ⟨q0, q1, q2, q3⟩ := And.intro (blk_cell HQ.out.b8 0) (And.intro (blk_cell HQ.out.b8 1) (And.intro (blk_cell HQ.out.b8 2) (blk_cell HQ.out.b8 3)))
          have s0 := blk_frozen HQ.out.b8 0
          have s1 := blk_frozen HQ.out.b8 1
          have s2 := blk_frozen HQ.out.b8 2
          have s3 := blk_frozen HQ.out.b8 3
          have hltq := blk_lt HQ.out.b8
          have hl2 : w.heap.size < wq.heap.size := by omega
          have hl3 : w.heap.size ≤ wq.heap.size := by omega
          have hl4 : w.heap.size < wq.heap.size + 1 := by omega
          have hn1 : ¬ (w.heap.size = wq.heap.size) := by omega
          have hn2 : ¬ (wq.heap.size = w.heap.size) := by omega
          have hn3 : ¬ (w.heap.size + 1 = wq.heap.size) := by omega
          have hn4 : ¬ (wq.heap.size = w.heap.size + 1) := by omega
          have hn5 : ¬ (w.heap.size = wq.heap.size + 1) := by omega
          have hn6 : ¬ (wq.heap.size + 1 = w.heap.size) := by omega
          have hfz := fun (wx : World) (c : Array Value) (t : TypeId) (k : Nat) => frozen?_alloc_cells wx c t ⟨w.heap.size + 1, k, none⟩
          go_wp2_with fail
          refine bodyPost_ret (results_ct rfl _ _ (w.heap.size + 1) 27 #[.string ⟨#[]⟩, .slice none 0 0, .string ⟨#[]⟩, .bool false] (0, 0) _ rfl (SM.fin HQ.out).1 Tryd.underlying27 rfl (by kernel_rfl)) rfl ?_
          exact ⟨(SM.fin HQ.out).2, .inl rfl⟩
        · have hnzi : ¬ (ln : Int) = 0 := by omega
          by_cases hneg : num < 0
          · have hnegi : num < 0 := by omega
            go_quiet (fail)
            refine post_gen (Q := Exit.then _ _) (F := fun wz => SM w wz A1 tl c1) (HS.out.below (by repeat (first | (with_reducible exact Below.refl _ _) | (with_reducible apply below_drew) | (with_reducible apply pw_below_drewN) | (with_reducible apply below_alloc)))) ?_
            intro wq hQ
            have HQ := Aside0.mk hQ
            clear hQ
            obtain ⟨q0, q1, q2, q3⟩ := And.intro (blk_cell HQ.out.b8 0) (And.intro (blk_cell HQ.out.b8 1) (And.intro (blk_cell HQ.out.b8 2) (blk_cell HQ.out.b8 3)))
            have s0 := blk_frozen HQ.out.b8 0
            have s1 := blk_frozen HQ.out.b8 1
            have s2 := blk_frozen HQ.out.b8 2
            have s3 := blk_frozen HQ.out.b8 3
            have hltq := blk_lt HQ.out.b8
            have hl2 : w.heap.size < wq.heap.size := by omega
            have hl3 : w.heap.size ≤ wq.heap.size := by omega
            have hl4 : w.heap.size < wq.heap.size + 1 := by omega
            have hn1 : ¬ (w.heap.size = wq.heap.size) := by omega
            have hn2 : ¬ (wq.heap.size = w.heap.size) := by omega
            have hn3 : ¬ (w.heap.size + 1 = wq.heap.size) := by omega
            have hn4 : ¬ (wq.heap.size = w.heap.size + 1) := by omega
            have hn5 : ¬ (w.heap.size = wq.heap.size + 1) := by omega
            have hn6 : ¬ (wq.heap.size + 1 = w.heap.size) := by omega
            have hfz := fun (wx : World) (c : Array Value) (t : TypeId) (k : Nat) => frozen?_alloc_cells wx c t ⟨w.heap.size + 1, k, none⟩
            go_wp2_with fail
            refine bodyPost_ret (results_ct rfl _ _ (w.heap.size + 1) 27 #[.string ⟨#[]⟩, .slice none 0 0, .string ⟨#[]⟩, .bool false] (0, 0) _ rfl (SM.fin HQ.out).1 Tryd.underlying27 rfl (by kernel_rfl)) rfl ?_
            exact ⟨(SM.fin HQ.out).2, .inl rfl⟩
          · have hnegi : ¬ num < 0 := by omega
            obtain ⟨m, hm⟩ : ∃ m : Nat, num = (m : Int) := ⟨num.toNat, by omega⟩
            subst hm
            obtain ⟨q, hq⟩ : ∃ q : Nat, m / 1000000 = q := ⟨_, rfl⟩
            have hqn : q < 9223372036854775808 := by omega
            have hq1 : Int.tdiv (m : Int) 1000000 = (q : Int) := by rw [Int.tdiv_eq_ediv_of_nonneg (by omega)]; omega
            have hq2 : wrap64 (q : Int) = q := (nat_i64 q hqn).2
            have hq3 : IntKind.i64.wrap (q : Int) = q := (nat_i64 q hqn).1
            have hdq : dec q = D := by rw [← HD.out, Int.toNat_natCast, hq]
            have hdec := fun wi => decimal_any q hqn wi
            have hzd := dec_size q (Nat.lt_trans hqn (by decide))
            rw [hdq] at hzd
            simp only [hdq] at hdec
            have HDEC := Aside0.mk hdec
            clear hdec hdq
            have hm0 : ¬ (m : Int) < 0 := Int.not_lt.mpr (Int.natCast_nonneg m)
            have hq0 : ¬ (q : Int) < 0 := Int.not_lt.mpr (Int.natCast_nonneg q)
            clear hq hqn hrn
            go_quiet (fail)
            refine post_gen (Q := Exit.then _ _) (F := fun wz => SM w wz A1 tl c1) (HS.out.below (by repeat (first | (with_reducible exact Below.refl _ _) | (with_reducible apply below_drew) | (with_reducible apply pw_below_drewN) | (with_reducible apply below_alloc)))) ?_
            intro wq hQ
            have HQ := Aside0.mk hQ
            clear hQ
            obtain ⟨q0, q1, q2, q3⟩ := And.intro (blk_cell HQ.out.b8 0) (And.intro (blk_cell HQ.out.b8 1) (And.intro (blk_cell HQ.out.b8 2) (blk_cell HQ.out.b8 3)))
            have s0 := blk_frozen HQ.out.b8 0
            have s1 := blk_frozen HQ.out.b8 1
            have s2 := blk_frozen HQ.out.b8 2
            have s3 := blk_frozen HQ.out.b8 3
            have hltq := blk_lt HQ.out.b8
            have hl2 : w.heap.size < wq.heap.size := by omega
            have hl3 : w.heap.size ≤ wq.heap.size := by omega
            have hl4 : w.heap.size < wq.heap.size + 1 := by omega
            have hn1 : ¬ (w.heap.size = wq.heap.size) := by omega
            have hn2 : ¬ (wq.heap.size = w.heap.size) := by omega
            have hn3 : ¬ (w.heap.size + 1 = wq.heap.size) := by omega
            have hn4 : ¬ (wq.heap.size = w.heap.size + 1) := by omega
            have hn5 : ¬ (w.heap.size = wq.heap.size + 1) := by omega
            have hn6 : ¬ (wq.heap.size + 1 = w.heap.size) := by omega
            have hfz := fun (wx : World) (c : Array Value) (t : TypeId) (k : Nat) => frozen?_alloc_cells wx c t ⟨w.heap.size + 1, k, none⟩
            go_wp2_with fail
            refine (HT0.out _ (HQ.out.below (by repeat (first | (with_reducible exact Below.refl _ _) | (with_reducible apply below_drew) | (with_reducible apply below_alloc))))).mono ?_
            rintro e w8 ⟨rfl, rfl⟩
            by_cases hid : T0.size = 16
            · have hidi : (T0.size : Int) = 16 := by omega
              have HID := Aside0.mk hid
              go_wp2_with fail
              refine (HT0.out _ (HQ.out.below (by repeat (first | (with_reducible exact Below.refl _ _) | (with_reducible apply below_drew) | (with_reducible apply below_alloc))))).mono ?_
              rintro e w8 ⟨rfl, rfl⟩
              go_wp2_with fail
              refine (HDEC.out _).mono ?_
              rintro e w9 ⟨rfl, hb⟩
              have HQ9 := Aside0.mk (HQ.out.below (Below.trans (b := _) (by repeat (first | (with_reducible exact Below.refl _ _) | (with_reducible apply below_drew) | (with_reducible apply below_alloc))) (hb.mono (by simp; omega))))
              have hb14 : w9.heap[w8.heap.size + 1]? = some (.cells #[.string ⟨#[82, 69, 81]⟩, .slice none 0 0, .string ⟨#[]⟩, .bool false] 27 (0, 0)) := (hb.block _ (by simp)).trans (alloc_new_at (by simp))
              have hltz := hb.size
              rw [World.size_alloc, World.size_alloc] at hltz
              have hfar : w.heap.size + 2 ≤ w8.heap.size + 1 := by omega
              clear hb q0 q1 q2 q3 s0 s1 s2 s3
              obtain ⟨q0, q1, q2, q3⟩ := And.intro (blk_cell HQ9.out.b8 0) (And.intro (blk_cell HQ9.out.b8 1) (And.intro (blk_cell HQ9.out.b8 2) (blk_cell HQ9.out.b8 3)))
              have s0 := blk_frozen HQ9.out.b8 0
              have s1 := blk_frozen HQ9.out.b8 1
              have s2 := blk_frozen HQ9.out.b8 2
              have s3 := blk_frozen HQ9.out.b8 3
              obtain ⟨r0, r1, r2, r3⟩ := And.intro (blk_cell hb14 0) (And.intro (blk_cell hb14 1) (And.intro (blk_cell hb14 2) (blk_cell hb14 3)))
              have z0 := blk_frozen hb14 0
              have z1 := blk_frozen hb14 1
              have z2 := blk_frozen hb14 2
              have z3 := blk_frozen hb14 3
              have y1 : w.heap.size + 1 < w9.heap.size := by omega
              have y2 : w8.heap.size + 1 < w9.heap.size := by omega
              have y3 : w.heap.size < w9.heap.size := by omega
              have y4 : w8.heap.size < w9.heap.size := by omega
              have y5 : w.heap.size ≤ w9.heap.size := by omega
              have y6 : w8.heap.size ≤ w9.heap.size := by omega
              have y7 : ¬ (w.heap.size + 1 = w9.heap.size) := by omega
              have y8 : ¬ (w9.heap.size = w.heap.size + 1) := by omega
              have y9 : ¬ (w8.heap.size + 1 = w9.heap.size) := by omega
              have y10 : ¬ (w9.heap.size = w8.heap.size + 1) := by omega
              clear hb14 hfz
              have hfz := fun (wx : World) (c : Array Value) (t : TypeId) (k : Nat) => frozen?_alloc_cells wx c t ⟨w.heap.size + 1, k, none⟩
              have hfz2 := fun (wx : World) (c : Array Value) (t : TypeId) (k : Nat) => frozen?_alloc_cells wx c t ⟨w8.heap.size + 1, k, none⟩
              go_wp2_with fail
              refine post_gen (Q := bodyPost _ _ _) (F := fun wf => ∃ v1, wf.heap[w.heap.size + 1]? = some (.cells #[.string ⟨#[82, 69, 81]⟩, v1, .string ⟨#[]⟩, .bool false] 27 (0, 0)) ∧ Below w.heap.size w wf ∧ Kd.string.R 9 wf w.heap.size (fun q => w.heap.size ≤ q) v1 [T0, D]) ⟨_, (blk_below (SM.fin (SM.far HQ9.out hfar)).1 (by repeat (first | (with_reducible exact Below.refl _ _) | (with_reducible apply below_drew) | (with_reducible apply below_alloc)))), (by repeat (first | (with_reducible exact (SM.fin (SM.far HQ9.out hfar)).2) | (with_reducible apply below_alloc))), str_row_at (l := [T0, D]) (by simp) (by rfl) (by simp; omega) (by simp)⟩ ?_
              rintro wf ⟨v1, hbx, hbel, hr⟩
              refine bodyPost_ret (results_ct rfl _ _ (w.heap.size + 1) 27 _ (0, 0) _ rfl hbx Tryd.underlying27 rfl (by kernel_rfl)) rfl ?_
              exact ⟨hbel, .inr ⟨(by rw [← HOKP.out]; exact ⟨by omega, by omega, by omega, HID.out⟩), v1, rfl, hr⟩⟩
            · have hidi : ¬ (T0.size : Int) = 16 := by omega
              go_wp2_with fail
              refine bodyPost_ret (results_ct rfl _ _ (w.heap.size + 1) 27 #[.string ⟨#[]⟩, .slice none 0 0, .string ⟨#[]⟩, .bool false] (0, 0) _ rfl (SM.fin HQ.out).1 Tryd.underlying27 rfl (by kernel_rfl)) rfl ?_
              exact ⟨(SM.fin HQ.out).2, .inl rfl⟩
end Go.Proofs.YtnbhledkdkchlaaDoor

namespace Go.Proofs.YtnbhledkdkchlaaDoor
set_option linter.unusedVariables false
set_option linter.unusedSimpArgs false
open Go.RowKit Go.Proofs.YtnbhledkdkchlaaDoorW.PrintWords

set_option maxHeartbeats 3000000 in
set_option maxRecDepth 100000 in
theorem sm11_any (A1 A2 A3 : Option Addr) (c1 c2 c3 : Nat) (texts : List ByteArray) (nums : List Int) (bodies : List ByteArray) (w : World) (hl : texts.length ≤ 4)
    (hC1 : Kd.C Kd.string w A1 texts.length texts) (hC2 : Kd.C (Kd.int .i64) w A2 nums.length nums) (hC3 : Kd.C Kd.string w A3 bodies.length bodies) (hln : nums.length ≤ 4) (hlb : bodies.length ≤ 8)
    (hz0 : (tx texts 0).size ≤ 100) (hz1 : (tx texts 1).size ≤ 100) (hzb : (tx bodies 0).size ≤ 100) :
    Calls Tryd.prog 5 #[.int .i64 11, .slice A1 texts.length c1, .slice A2 nums.length c2, .slice A3 bodies.length c3] w fun e w' => SmR w ⟨#[84, 79, 85, 67, 72]⟩ [tx texts 0] ⟨#[]⟩ false (1 ≤ texts.length ∧ 0 ≤ nums.headD 0 ∧ (tx texts 0).size = 16) e w' := by
  have hmf : ∀ (fn : Fn) (first cap : Array Value) (w : World), (Instr.makeFunc fn first cap).run Tryd.prog w = .ok (.func fn first cap) w := fun _ _ _ _ => rfl
  have HT0 := Aside0.mk (fun (wi : World) (h : SM w wi A1 texts.length c1) => txt9_any 0 w.heap.size A1 c1 texts wi (by decide) h.b5 (Kd.C_below hC1 h.bel) hl)
  have HT1 := Aside0.mk (fun (wi : World) (h : SM w wi A1 texts.length c1) => txt9_any 1 w.heap.size A1 c1 texts wi (by decide) h.b5 (Kd.C_below hC1 h.bel) hl)
  have HS := Aside0.mk (SM.start w A1 texts.length c1)
  generalize tx texts 0 = T0 at *
  generalize tx texts 1 = T1 at *
  generalize texts.length = tl at *
  obtain ⟨num, hnum⟩ : ∃ num, nums.headD 0 = num := ⟨_, rfl⟩
  obtain ⟨body, hbody⟩ : ∃ body, tx bodies 0 = body := ⟨_, rfl⟩
  rw [hnum]
  (try rw [hbody])
  rw [hbody] at hzb
  skip
  obtain ⟨OKP, hok⟩ : ∃ OKP, (1 ≤ tl ∧ 0 ≤ num ∧ T0.size = 16) = OKP := ⟨_, rfl⟩
  rw [hok]
  have HOKP := Aside0.mk hok
  clear hok
  have HNUM := Aside0.mk hnum
  have HBODY := Aside0.mk hbody
  have HC2 := Aside0.mk hC2
  have HC3 := Aside0.mk hC3
  clear hC1 hl hnum hbody hC2 hC3
  go_enter Tryd.func5, Tryd.ntmps5
  go_upto_if 20 with (fail)
  go_cut [11] (fun v11 wc => v11 = .int .i64 num ∧ wc = ((w.alloc (.cells #[.slice A1 tl c1] 22)).alloc (.cells #[.string ⟨#[]⟩, .slice none 0 0, .string ⟨#[]⟩, .bool false] 27)))
  case first =>
    cases nums with
    | nil =>
      have h0 : (0 : Int) = num := HNUM.out
      subst h0
      go_wp2_with fail
      go_meet
      case rel => exact ⟨rfl, rfl⟩
    | cons n0 nums =>
      have h0 : n0 = num := HNUM.out
      subst h0
      obtain ⟨ad2, hA2, hc2x⟩ := at_enc HC2.out (j := 0) (x := n0) rfl
      subst hA2
      have hc2 : w.cell? ad2 = some (.int .i64 n0) := by simpa [Addr.add] using hc2x
      have hlt2 : ad2.block < w.heap.size := World.block_lt_of_cell? _ _ hc2
      clear hc2x
      have hgt : 0 < (n0 :: nums).length := by simp
      go_wp2_with fail
      go_meet
      case rel => exact ⟨rfl, rfl⟩
  case rest =>
    obtain ⟨rfl, rfl⟩ := hcut
    go_upto_if 26 with (fail)
    go_cut [12] (fun v12 wc => v12 = .string body ∧ wc = ((w.alloc (.cells #[.slice A1 tl c1] 22)).alloc (.cells #[.string ⟨#[]⟩, .slice none 0 0, .string ⟨#[]⟩, .bool false] 27)))
    case first =>
      cases bodies with
      | nil =>
        have h0 : (⟨#[]⟩ : ByteArray) = body := HBODY.out
        subst h0
        go_wp2_with fail
        go_meet
        case rel => exact ⟨rfl, rfl⟩
      | cons b0 bodies =>
        have h0 : b0 = body := HBODY.out
        subst h0
        obtain ⟨ad3, hA3, hc3x⟩ := at_enc HC3.out (j := 0) (x := b0) rfl
        subst hA3
        have hc3 : w.cell? ad3 = some (.string b0) := by simpa [Addr.add] using hc3x
        have hlt3 : ad3.block < w.heap.size := World.block_lt_of_cell? _ _ hc3
        clear hc3x
        have hgt : 0 < (b0 :: bodies).length := by simp
        go_wp2_with fail
        go_meet
        case rel => exact ⟨rfl, rfl⟩
    case rest =>
      obtain ⟨rfl, rfl⟩ := hcut
      generalize nums.length = ln at *
      generalize bodies.length = lb at *
      clear HC2 HC3 HNUM HBODY
      go_wp2_with fail
      by_cases htl : tl < 1
      · have htli : (tl : Int) < 1 := by omega
        go_quiet (fail)
        refine post_gen (Q := Exit.then _ _) (F := fun wz => SM w wz A1 tl c1) (HS.out.below (by repeat (first | (with_reducible exact Below.refl _ _) | (with_reducible apply below_drew) | (with_reducible apply pw_below_drewN) | (with_reducible apply below_alloc)))) ?_
        intro wq hQ
        have HQ := Aside0.mk hQ
        clear hQ
        obtain ⟨q0, q1, q2, q3⟩ := And.intro (blk_cell HQ.out.b8 0) (And.intro (blk_cell HQ.out.b8 1) (And.intro (blk_cell HQ.out.b8 2) (blk_cell HQ.out.b8 3)))
        have s0 := blk_frozen HQ.out.b8 0
        have s1 := blk_frozen HQ.out.b8 1
        have s2 := blk_frozen HQ.out.b8 2
        have s3 := blk_frozen HQ.out.b8 3
        have hltq := blk_lt HQ.out.b8
        have hl2 : w.heap.size < wq.heap.size := by omega
        have hl3 : w.heap.size ≤ wq.heap.size := by omega
        have hl4 : w.heap.size < wq.heap.size + 1 := by omega
        have hn1 : ¬ (w.heap.size = wq.heap.size) := by omega
        have hn2 : ¬ (wq.heap.size = w.heap.size) := by omega
        have hn3 : ¬ (w.heap.size + 1 = wq.heap.size) := by omega
        have hn4 : ¬ (wq.heap.size = w.heap.size + 1) := by omega
        have hn5 : ¬ (w.heap.size = wq.heap.size + 1) := by omega
        have hn6 : ¬ (wq.heap.size + 1 = w.heap.size) := by omega
        have hfz := fun (wx : World) (c : Array Value) (t : TypeId) (k : Nat) => frozen?_alloc_cells wx c t ⟨w.heap.size + 1, k, none⟩
        go_wp2_with fail
        refine bodyPost_ret (results_ct rfl _ _ (w.heap.size + 1) 27 #[.string ⟨#[]⟩, .slice none 0 0, .string ⟨#[]⟩, .bool false] (0, 0) _ rfl (SM.fin HQ.out).1 Tryd.underlying27 rfl (by kernel_rfl)) rfl ?_
        exact ⟨(SM.fin HQ.out).2, .inl rfl⟩
      · have htli : ¬ (tl : Int) < 1 := by omega
        by_cases hneg : num < 0
        · have hnegi : num < 0 := by omega
          go_quiet (fail)
          refine post_gen (Q := Exit.then _ _) (F := fun wz => SM w wz A1 tl c1) (HS.out.below (by repeat (first | (with_reducible exact Below.refl _ _) | (with_reducible apply below_drew) | (with_reducible apply pw_below_drewN) | (with_reducible apply below_alloc)))) ?_
          intro wq hQ
          have HQ := Aside0.mk hQ
          clear hQ
          obtain ⟨q0, q1, q2, q3⟩ := And.intro (blk_cell HQ.out.b8 0) (And.intro (blk_cell HQ.out.b8 1) (And.intro (blk_cell HQ.out.b8 2) (blk_cell HQ.out.b8 3)))
          have s0 := blk_frozen HQ.out.b8 0
          have s1 := blk_frozen HQ.out.b8 1
          have s2 := blk_frozen HQ.out.b8 2
          have s3 := blk_frozen HQ.out.b8 3
          have hltq := blk_lt HQ.out.b8
          have hl2 : w.heap.size < wq.heap.size := by omega
          have hl3 : w.heap.size ≤ wq.heap.size := by omega
          have hl4 : w.heap.size < wq.heap.size + 1 := by omega
          have hn1 : ¬ (w.heap.size = wq.heap.size) := by omega
          have hn2 : ¬ (wq.heap.size = w.heap.size) := by omega
          have hn3 : ¬ (w.heap.size + 1 = wq.heap.size) := by omega
          have hn4 : ¬ (wq.heap.size = w.heap.size + 1) := by omega
          have hn5 : ¬ (w.heap.size = wq.heap.size + 1) := by omega
          have hn6 : ¬ (wq.heap.size + 1 = w.heap.size) := by omega
          have hfz := fun (wx : World) (c : Array Value) (t : TypeId) (k : Nat) => frozen?_alloc_cells wx c t ⟨w.heap.size + 1, k, none⟩
          go_wp2_with fail
          refine bodyPost_ret (results_ct rfl _ _ (w.heap.size + 1) 27 #[.string ⟨#[]⟩, .slice none 0 0, .string ⟨#[]⟩, .bool false] (0, 0) _ rfl (SM.fin HQ.out).1 Tryd.underlying27 rfl (by kernel_rfl)) rfl ?_
          exact ⟨(SM.fin HQ.out).2, .inl rfl⟩
        · have hnegi : ¬ num < 0 := by omega
          go_quiet (fail)
          refine post_gen (Q := Exit.then _ _) (F := fun wz => SM w wz A1 tl c1) (HS.out.below (by repeat (first | (with_reducible exact Below.refl _ _) | (with_reducible apply below_drew) | (with_reducible apply pw_below_drewN) | (with_reducible apply below_alloc)))) ?_
          intro wq hQ
          have HQ := Aside0.mk hQ
          clear hQ
          obtain ⟨q0, q1, q2, q3⟩ := And.intro (blk_cell HQ.out.b8 0) (And.intro (blk_cell HQ.out.b8 1) (And.intro (blk_cell HQ.out.b8 2) (blk_cell HQ.out.b8 3)))
          have s0 := blk_frozen HQ.out.b8 0
          have s1 := blk_frozen HQ.out.b8 1
          have s2 := blk_frozen HQ.out.b8 2
          have s3 := blk_frozen HQ.out.b8 3
          have hltq := blk_lt HQ.out.b8
          have hl2 : w.heap.size < wq.heap.size := by omega
          have hl3 : w.heap.size ≤ wq.heap.size := by omega
          have hl4 : w.heap.size < wq.heap.size + 1 := by omega
          have hn1 : ¬ (w.heap.size = wq.heap.size) := by omega
          have hn2 : ¬ (wq.heap.size = w.heap.size) := by omega
          have hn3 : ¬ (w.heap.size + 1 = wq.heap.size) := by omega
          have hn4 : ¬ (wq.heap.size = w.heap.size + 1) := by omega
          have hn5 : ¬ (w.heap.size = wq.heap.size + 1) := by omega
          have hn6 : ¬ (wq.heap.size + 1 = w.heap.size) := by omega
          have hfz := fun (wx : World) (c : Array Value) (t : TypeId) (k : Nat) => frozen?_alloc_cells wx c t ⟨w.heap.size + 1, k, none⟩
          go_wp2_with fail
          refine (HT0.out _ (HQ.out.below (by repeat (first | (with_reducible exact Below.refl _ _) | (with_reducible apply below_drew) | (with_reducible apply below_alloc))))).mono ?_
          rintro e w8 ⟨rfl, rfl⟩
          by_cases hid : T0.size = 16
          · have hidi : (T0.size : Int) = 16 := by omega
            have HID := Aside0.mk hid
            go_wp2_with fail
            refine (HT0.out _ (HQ.out.below (by repeat (first | (with_reducible exact Below.refl _ _) | (with_reducible apply below_drew) | (with_reducible apply below_alloc))))).mono ?_
            rintro e w8 ⟨rfl, rfl⟩
            go_wp2_with fail
            refine post_gen (Q := bodyPost _ _ _) (F := fun wf => ∃ v1, wf.heap[w.heap.size + 1]? = some (.cells #[.string ⟨#[84, 79, 85, 67, 72]⟩, v1, .string ⟨#[]⟩, .bool false] 27 (0, 0)) ∧ Below w.heap.size w wf ∧ Kd.string.R 9 wf w.heap.size (fun q => w.heap.size ≤ q) v1 [T0]) ⟨_, (blk_below (SM.fin HQ.out).1 (by repeat (first | (with_reducible exact Below.refl _ _) | (with_reducible apply below_drew) | (with_reducible apply below_alloc)))), (by repeat (first | (with_reducible exact (SM.fin HQ.out).2) | (with_reducible apply below_alloc))), str_row_at (l := [T0]) (by simp) (by rfl) (by simp; omega) (by simp)⟩ ?_
            rintro wf ⟨v1, hbx, hbel, hr⟩
            refine bodyPost_ret (results_ct rfl _ _ (w.heap.size + 1) 27 _ (0, 0) _ rfl hbx Tryd.underlying27 rfl (by kernel_rfl)) rfl ?_
            exact ⟨hbel, .inr ⟨(by rw [← HOKP.out]; exact ⟨by omega, by omega, HID.out⟩), v1, rfl, hr⟩⟩
          · have hidi : ¬ (T0.size : Int) = 16 := by omega
            go_wp2_with fail
            refine bodyPost_ret (results_ct rfl _ _ (w.heap.size + 1) 27 #[.string ⟨#[]⟩, .slice none 0 0, .string ⟨#[]⟩, .bool false] (0, 0) _ rfl (SM.fin HQ.out).1 Tryd.underlying27 rfl (by kernel_rfl)) rfl ?_
            exact ⟨(SM.fin HQ.out).2, .inl rfl⟩
end Go.Proofs.YtnbhledkdkchlaaDoor
