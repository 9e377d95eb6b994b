/- impl.PackLists by its four ways. -/
import Derived.Test.YtjnookhdiolhgaaPkLi
namespace Go.Proofs.Ytjnookhdiolhgaa
set_option linter.unusedVariables false
set_option linter.unusedSimpArgs false
open Go.RowKit Go.Proofs.YtjnookhdiolhgaaW.PrintWords
open PAll (info5 S26 k26)

theorem info3 : (Try.prog.info? 3).map (fun i => (i.zero, i.size, i.bytes)) = some (some (.int .i64 0), 1, 8) := by kernel_rfl
theorem info96 : (Try.prog.info? 96).map (fun i => (i.zero, i.size, i.bytes)) = some (some (.float .f64 0), 1, 8) := by kernel_rfl
theorem C_old {α : Type} {enc : α → Value} {h1 : ∀ x, (enc x).oneCell' = true} {w : World} {A : Option Addr} {L : List α} (h : (Kd.scalar enc h1).C w A L.length L) (hp : 0 < L.length) : ∀ ad, A = some ad → ad.block < w.heap.size := by
  intro ad hA
  obtain ⟨x, hx⟩ : ∃ x, L[0]? = some x := ⟨_, List.getElem?_eq_getElem hp⟩
  obtain ⟨ad2, h2, hc⟩ := at_enc h hx
  rw [hA] at h2
  injection h2 with h2
  subst h2
  have := World.block_lt_of_cell? w _ hc
  have e : (ad.add 0).block = ad.block := by unfold Addr.add; split <;> rfl
  rwa [e] at this

set_option maxHeartbeats 2000000 in
set_option maxRecDepth 100000 in
theorem lists0 (L : List Int) (A : Option Addr) (c : Nat) (v2 v3 : Value) (w : World) (hc : L.length ≤ c) (hC : (Kd.int .i64).C w A L.length L)
    (hl : (L.flatMap encInt).length ≤ 1000000000) (hn : L.length ≤ 100000) (hel : ∀ x ∈ L, -9223372036854775808 ≤ x ∧ x < 9223372036854775808) :
    Calls Try.prog 24 #[.int .i64 0, .slice A L.length c, v2, v3] w fun e w' => e = .returned (.tuple #[.string (strOfNums (encHead 144 212 L.length ++ L.flatMap encInt)), .int .i64 0]) ∧ Below w.heap.size w w' := by
  have HC := Lib.hid (fun (wi : World) (hb : Below w.heap.size w wi) (hp : PB wi w.heap.size w.heap.size []) => pl_ints64 L A c (B := w.heap.size) (bp := w.heap.size) (xs := []) wi hc (Kd.C_below hC hb) (fun hz ad ha => by have := C_old hC hz ad ha; omega) hp hb.size (by simpa using hl) hn hel)
  clear hC hl hel hn hc
  go_enter Try.func24, Try.ntmps24
  go_wp2_with fail
  refine (pk_begin _ (heap_alloc_new w _)).mono ?_
  rintro e w1 ⟨rfl, hb1, hg1⟩
  have HBE := Lib.hid ((below_alloc (Below.refl w.heap.size w) _).grown hg1 (by simp) (by rintro k hk; injection hk with hk; omega))
  have HP := Lib.hid (show PB w1 w.heap.size w.heap.size [] from ⟨.slice none 0 0, hb1, own_nil _ _ _ _⟩)
  clear hb1 hg1
  go_wp2_with fail
  refine (HC.out _ HBE.out HP.out).mono ?_
  rintro e w2 ⟨rfl, hp2, hf2⟩
  rw [List.nil_append] at hp2
  have HP2 := Lib.hid hp2
  have HF2 := Lib.hid (HBE.out.trans (hf2.below (by omega) HBE.out.size))
  clear hp2 hf2 HC HP
  go_wp2_with fail
  refine (ended_any _ HP2.out).mono ?_
  rintro e w3 ⟨rfl, ⟨nd, rfl⟩⟩
  go_wp2_with fail
  go_ret2
  exact ⟨rfl, pw_below_drewN HF2.out nd⟩

set_option maxHeartbeats 2000000 in
set_option maxRecDepth 100000 in
theorem lists3 (L : List ByteArray) (A : Option Addr) (c : Nat) (v1 v2 : Value) (w : World) (hc : L.length ≤ c) (hC : Kd.string.C w A L.length L)
    (hl : (L.flatMap encText).length ≤ 1000000000) (hn : L.length ≤ 100000) (hel : ∀ x ∈ L, x.size ≤ 300) :
    Calls Try.prog 24 #[.int .i64 3, v1, v2, .slice A L.length c] w fun e w' => e = .returned (.tuple #[.string (strOfNums (encHead 144 212 L.length ++ L.flatMap encText)), .int .i64 0]) ∧ Below w.heap.size w w' := by
  have HC := Lib.hid (fun (wi : World) (hb : Below w.heap.size w wi) (hp : PB wi w.heap.size w.heap.size []) => pl_strings L A c (B := w.heap.size) (bp := w.heap.size) (xs := []) wi hc (Kd.C_below hC hb) (fun hz ad ha => by have := C_old hC hz ad ha; omega) hp hb.size (by simpa using hl) hn hel)
  clear hC hl hel hn hc
  go_enter Try.func24, Try.ntmps24
  go_wp2_with fail
  refine (pk_begin _ (heap_alloc_new w _)).mono ?_
  rintro e w1 ⟨rfl, hb1, hg1⟩
  have HBE := Lib.hid ((below_alloc (Below.refl w.heap.size w) _).grown hg1 (by simp) (by rintro k hk; injection hk with hk; omega))
  have HP := Lib.hid (show PB w1 w.heap.size w.heap.size [] from ⟨.slice none 0 0, hb1, own_nil _ _ _ _⟩)
  clear hb1 hg1
  go_wp2_with fail
  refine (HC.out _ HBE.out HP.out).mono ?_
  rintro e w2 ⟨rfl, hp2, hf2⟩
  rw [List.nil_append] at hp2
  have HP2 := Lib.hid hp2
  have HF2 := Lib.hid (HBE.out.trans (hf2.below (by omega) HBE.out.size))
  clear hp2 hf2 HC HP
  go_wp2_with fail
  refine (ended_any _ HP2.out).mono ?_
  rintro e w3 ⟨rfl, ⟨nd, rfl⟩⟩
  go_wp2_with fail
  go_ret2
  exact ⟨rfl, pw_below_drewN HF2.out nd⟩

set_option maxHeartbeats 2000000 in
set_option maxRecDepth 100000 in
theorem lists1 (L : List Int) (A : Option Addr) (c : Nat) (v2 v3 : Value) (w : World) (hc : L.length ≤ c) (hC : (Kd.int .i64).C w A L.length L)
    (hl : (L.flatMap encInt).length ≤ 1000000000) (hn : L.length ≤ 100000) (hel : ∀ x ∈ L, -9223372036854775808 ≤ x ∧ x < 9223372036854775808) :
    Calls Try.prog 24 #[.int .i64 1, .slice A L.length c, v2, v3] w fun e w' => e = .returned (.tuple #[.string (strOfNums (encHead 144 212 L.length ++ L.flatMap encInt)), .int .i64 0]) ∧ Below w.heap.size w w' := by
  have HC := Lib.hid hC
  have HH := Lib.hid (And.intro hl hel)
  clear hC hl hel
  go_enter Try.func24, Try.ntmps24
  go_wp2_with fail
  refine (pk_begin _ (heap_alloc_new w _)).mono ?_
  rintro e w1 ⟨rfl, hb1, hg1⟩
  have HBE := Lib.hid ((below_alloc (Below.refl w.heap.size w) _).grown hg1 (by simp) (by rintro k hk; injection hk with hk; omega))
  have HPB := Lib.hid hb1
  have HB1 := Lib.hid (Below.refl w1.heap.size w1)
  have hbl := blk_lt hb1
  clear hb1 hg1
  go_wp2_with fail
  go_loopg [11, 31] L.length (fun gk vs vi wr => ∃ (j : Nat) (v : Value), vs = v ∧ vi = .int .i64 j ∧ Aside0 (j ≤ L.length ∧ gk = L.length - j) ∧ Aside0 (Below w1.heap.size w1 wr) ∧ Aside0 (Kd.R (Kd.int .i64) 3 wr w1.heap.size (fun q => w1.heap.size ≤ q) v (L.take j)))
  case atStart => exact ⟨0, _, rfl, rfl, ⟨by omega⟩, ⟨Below.refl _ _⟩, ⟨by simpa using Kd.R_nil _ _ _ _ _⟩⟩
  case round =>
    clear HB1
    obtain ⟨j, v, rfl, rfl, HJ, HB, HR⟩ := hrel
    obtain ⟨A1, c1, rfl⟩ := Kd.R_slice HR.out
    by_cases hj : j < L.length
    · obtain ⟨x, hx⟩ : ∃ x, L[j]? = some x := ⟨_, List.getElem?_eq_getElem hj⟩
      obtain ⟨ad, hAd, hcell⟩ := at_enc HC.out hx
      have hcr := pw_cell_below (HBE.out.trans (HB.out.mono HBE.out.size)) hcell
      subst hAd
      have HX := Lib.hid hx
      have hlen : ((L.take j).length + 1) * 8 ≤ 140737488355328 := by simp only [List.length_map, List.length_take]; omega
      have hszr := HB.out.size
      clear hx hcell
      go_wp2_with (at_builtin; refine Kd.R_append (w0 := w1) (Kd.int .i64) w1.heap.size rfl (.tmp 35) (.tmp 37) 93 3 _ 8 rfl Try.underlying93 info3 rfl (by show 0 < 1; decide) (by decide) (.slice A1 (L.take j).length c1) (L.take j) (x) [.int .i64 x] (fun q => w1.heap.size ≤ q) (fun _ => False) (by simp [Act.eval]) (by simp [Act.eval]) rfl (fun _ h => h.elim) (fun q hq => Nat.le_trans hszr hq) HR.out HB.out hszr hlen ?_; intro v1 w3 hr1 hb1 hg1 hat1; obtain ⟨A3, n3, c3, rfl⟩ : ∃ A3 n3 c3, v1 = .slice A3 n3 c3 := (by obtain ⟨A, c, h⟩ := Kd.R_slice hr1; exact ⟨A, _, c, h⟩); have HR2 := Lib.hid hr1; have HB2 := Lib.hid hb1; clear hr1 hb1 hg1 hat1)
      go_roundg (L.length - (j + 1))
      case measure => have := HJ.out.2; omega
      case rel =>
        refine ⟨j + 1, _, rfl, by go_num, ⟨by omega⟩, ⟨HB2.out⟩, ⟨?_⟩⟩
        rw [List.take_add_one, HX.out]
        simpa using HR2.out
    · have hje : j = L.length := by have := HJ.out.1; omega
      subst hje
      have hr := HR.out
      rw [List.take_length] at hr
      have hz : L.length = L.length := by simp
      have hcall := (pl_ints L A1 c1 (B := wr.heap.size) (bp := w.heap.size) (xs := []) wr (Kd.R_reads' (by simpa using hr)).2.1 (by first | exact (Kd.R_reads' (by simpa using hr)).2.2 | exact (Kd.R_reads' hr).2.2)
        (fun hz2 ad ha => by
          obtain ⟨g, cap, he, h1, h2, -⟩ := Kd.R_form hr hz2
          injection he with he _ _
          rw [ha] at he
          injection he with he
          subst he
          exact ⟨by show g ≠ w.heap.size; omega, h2⟩)
        ⟨.slice none 0 0, (HB.out.block _ hbl).trans HPB.out, own_nil _ _ _ _⟩ (Nat.le_refl _) (by first | simpa using HH.out.1 | (rw [HFM.out]; simpa using HH.out.1)) (by omega) HH.out.2)
      have HCALL := Lib.hid hcall
      clear hcall
      have HBL := Lib.hid (HBE.out.trans (HB.out.mono HBE.out.size))
      clear HR hr HJ
      go_wp2_with fail
      refine (HCALL.out).mono ?_
      rintro e w2 ⟨rfl, hp2, hf2⟩
      rw [List.nil_append] at hp2
      have hf2f : Below w.heap.size wr w2 := ⟨hf2.os, hf2.tape, hf2.output, hf2.size, fun i hi => hf2.blk i (by have := HBL.out.size; omega) (by omega) (.inl (by have := HBL.out.size; omega))⟩
      have HP2 := Lib.hid hp2
      have HF2 := Lib.hid (HBL.out.trans (hf2f))
      clear hp2 hf2 HCALL hf2f
      go_wp2_with fail
      refine (ended_any _ HP2.out).mono ?_
      rintro e w3 ⟨rfl, ⟨nd, rfl⟩⟩
      go_wp2_with fail
      go_ret2
      exact ⟨rfl, pw_below_drewN HF2.out nd⟩

set_option maxHeartbeats 2000000 in
set_option maxRecDepth 100000 in
theorem lists2 (L : List Int) (A : Option Addr) (c : Nat) (v1 v3 : Value) (w : World) (hc : L.length ≤ c) (hC : (Kd.int .u64).C w A L.length L)
    (hl : (L.flatMap (fun x => encFloat x.toNat)).length ≤ 1000000000) (hn : L.length ≤ 100000) (hel : ∀ x ∈ L, 0 ≤ x ∧ x < 18446744073709551616) :
    Calls Try.prog 24 #[.int .i64 2, v1, .slice A L.length c, v3] w fun e w' => e = .returned (.tuple #[.string (strOfNums (encHead 144 212 L.length ++ L.flatMap (fun x => encFloat x.toNat))), .int .i64 0]) ∧ Below w.heap.size w w' := by
  have HC := Lib.hid hC
  have HH := Lib.hid (And.intro hl hel)
  have HFM := Lib.hid (show (L.map Int.toNat).flatMap encFloat = L.flatMap (fun x => encFloat x.toNat) by rw [List.flatMap_map])
  clear hC hl hel
  have hfb := fun (n : Int) (w : World) => run_frombits n w
  go_enter Try.func24, Try.ntmps24
  go_wp2_with fail
  refine (pk_begin _ (heap_alloc_new w _)).mono ?_
  rintro e w1 ⟨rfl, hb1, hg1⟩
  have HBE := Lib.hid ((below_alloc (Below.refl w.heap.size w) _).grown hg1 (by simp) (by rintro k hk; injection hk with hk; omega))
  have HPB := Lib.hid hb1
  have HB1 := Lib.hid (Below.refl w1.heap.size w1)
  have hbl := blk_lt hb1
  clear hb1 hg1
  go_wp2_with fail
  go_loopg [14, 47] L.length (fun gk vs vi wr => ∃ (j : Nat) (v : Value), vs = v ∧ vi = .int .i64 j ∧ Aside0 (j ≤ L.length ∧ gk = L.length - j) ∧ Aside0 (Below w1.heap.size w1 wr) ∧ Aside0 (Kd.R kfl 96 wr w1.heap.size (fun q => w1.heap.size ≤ q) v ((L.take j).map Int.toNat)))
  case atStart => exact ⟨0, _, rfl, rfl, ⟨by omega⟩, ⟨Below.refl _ _⟩, ⟨by simpa using Kd.R_nil _ _ _ _ _⟩⟩
  case round =>
    clear HB1
    obtain ⟨j, v, rfl, rfl, HJ, HB, HR⟩ := hrel
    obtain ⟨A1, c1, rfl⟩ := Kd.R_slice HR.out
    by_cases hj : j < L.length
    · obtain ⟨x, hx⟩ : ∃ x, L[j]? = some x := ⟨_, List.getElem?_eq_getElem hj⟩
      obtain ⟨ad, hAd, hcell⟩ := at_enc HC.out hx
      have hcr := pw_cell_below (HBE.out.trans (HB.out.mono HBE.out.size)) hcell
      subst hAd
      have HX := Lib.hid hx
      have hlen : (((L.take j).map Int.toNat).length + 1) * 8 ≤ 140737488355328 := by simp only [List.length_map, List.length_take]; omega
      have hszr := HB.out.size
      clear hx hcell
      go_wp2_with (at_builtin; refine Kd.R_append (w0 := w1) kfl w1.heap.size rfl (.tmp 51) (.tmp 54) 95 96 _ 8 rfl Try.underlying95 info96 rfl (by show 0 < 1; decide) (by decide) (.slice A1 ((L.take j).map Int.toNat).length c1) ((L.take j).map Int.toNat) (x.toNat) [.float .f64 x.toNat] (fun q => w1.heap.size ≤ q) (fun _ => False) (by simp [Act.eval]) (by simp [Act.eval]) rfl (fun _ h => h.elim) (fun q hq => Nat.le_trans hszr hq) HR.out HB.out hszr hlen ?_; intro v1 w3 hr1 hb1 hg1 hat1; obtain ⟨A3, n3, c3, rfl⟩ : ∃ A3 n3 c3, v1 = .slice A3 n3 c3 := (by obtain ⟨A, c, h⟩ := Kd.R_slice hr1; exact ⟨A, _, c, h⟩); have HR2 := Lib.hid hr1; have HB2 := Lib.hid hb1; clear hr1 hb1 hg1 hat1)
      go_roundg (L.length - (j + 1))
      case measure => have := HJ.out.2; omega
      case rel =>
        refine ⟨j + 1, _, rfl, by go_num, ⟨by omega⟩, ⟨HB2.out⟩, ⟨?_⟩⟩
        rw [List.take_add_one, HX.out]
        simpa using HR2.out
    · have hje : j = L.length := by have := HJ.out.1; omega
      subst hje
      have hr := HR.out
      rw [List.take_length] at hr
      have hz : (L.map Int.toNat).length = L.length := by simp
      have hcall := (pl_floats (L.map Int.toNat) A1 c1 (B := wr.heap.size) (bp := w.heap.size) (xs := []) wr (Kd.R_reads' (by simpa using hr)).2.1 (by first | exact (Kd.R_reads' (by simpa using hr)).2.2 | exact (Kd.R_reads' hr).2.2)
        (fun hz2 ad ha => by
          obtain ⟨g, cap, he, h1, h2, -⟩ := Kd.R_form hr hz2
          injection he with he _ _
          rw [ha] at he
          injection he with he
          subst he
          exact ⟨by show g ≠ w.heap.size; omega, h2⟩)
        ⟨.slice none 0 0, (HB.out.block _ hbl).trans HPB.out, own_nil _ _ _ _⟩ (Nat.le_refl _) (by first | simpa using HH.out.1 | (rw [HFM.out]; simpa using HH.out.1)) (by omega) (fun x hx => by obtain ⟨y, hy, rfl⟩ := List.mem_map.1 hx; have := HH.out.2 y hy; omega))
      rw [hz, HFM.out] at hcall
      have HCALL := Lib.hid hcall
      clear hcall
      have HBL := Lib.hid (HBE.out.trans (HB.out.mono HBE.out.size))
      clear HR hr HJ
      go_wp2_with fail
      refine (HCALL.out).mono ?_
      rintro e w2 ⟨rfl, hp2, hf2⟩
      rw [List.nil_append] at hp2
      have hf2f : Below w.heap.size wr w2 := ⟨hf2.os, hf2.tape, hf2.output, hf2.size, fun i hi => hf2.blk i (by have := HBL.out.size; omega) (by omega) (.inl (by have := HBL.out.size; omega))⟩
      have HP2 := Lib.hid hp2
      have HF2 := Lib.hid (HBL.out.trans (hf2f))
      clear hp2 hf2 HCALL hf2f
      go_wp2_with fail
      refine (ended_any _ HP2.out).mono ?_
      rintro e w3 ⟨rfl, ⟨nd, rfl⟩⟩
      go_wp2_with fail
      go_ret2
      exact ⟨rfl, pw_below_drewN HF2.out nd⟩
end Go.Proofs.Ytjnookhdiolhgaa
