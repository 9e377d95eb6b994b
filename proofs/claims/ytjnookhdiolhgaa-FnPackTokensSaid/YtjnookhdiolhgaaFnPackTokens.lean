/- FnPackTokens: the walk. (seat r1) -/
import Derived.Test.YtjnookhdiolhgaaTki
import Derived.Test.YtjnookhdiolhgaaPackA
import Derived.OpenShut
namespace Go.Proofs.Ytjnookhdiolhgaa
set_option linter.unusedVariables false
set_option linter.unusedSimpArgs false
open Go.RowKit Go.Proofs.YtjnookhdiolhgaaW.PrintWords

/-- A list's piece in memory. -/
theorem tkn_at {e base : Nat} {ok : Nat → Prop} {W : World} {v : Value} {l : List TKN} (h : ktk.R e W base ok v l) {j : Nat} (hj : j < l.length) (t : TKN) (ht : l[j]? = some t) :
    ∃ g c, v = .slice (some ⟨g, 0, none⟩) l.length c ∧ g < W.heap.size ∧ W.cell? ⟨g, j * 7, none⟩ = some (.int .i64 t.c) ∧ W.cell? ⟨g, j * 7 + 1, none⟩ = some (.bool t.b) ∧ W.cell? ⟨g, j * 7 + 2, none⟩ = some (.int .i64 t.i) ∧ W.cell? ⟨g, j * 7 + 3, none⟩ = some (.int .u64 t.f) ∧ W.cell? ⟨g, j * 7 + 4, none⟩ = some (.string t.s) ∧ W.cell? ⟨g, j * 7 + 5, none⟩ = some (.int .u32 t.n) ∧ W.cell? ⟨g, j * 7 + 6, none⟩ = some (.int .i64 t.g) := by
  obtain ⟨g, c1, hv, h1, h2, _, _⟩ := Kd.R_form h (by omega)
  subst hv
  obtain ⟨c, hcl, hM, hcc, hfz⟩ := Kd.R_elem h tk0 j (by omega) (by omega)
  rw [show l.getD (Int.toNat (j : Int)) tk0 = t by rw [Int.toNat_natCast, List.getD_eq_getElem?_getD, ht]; rfl] at hM
  have hM : c = (B57 t).toList := hM
  subst hM
  rw [Int.toNat_natCast] at hcc hfz
  exact ⟨g, c1, rfl, h2, hcc 0 _ rfl, hcc 1 _ rfl, hcc 2 _ rfl, hcc 3 _ rfl, hcc 4 _ rfl, hcc 5 _ rfl, hcc 6 _ rfl⟩

set_option maxHeartbeats 8000000 in
set_option maxRecDepth 100000 in
theorem FnPackTokens_walk (s : ByteArray) (most : Int) (w : World) (h0 : 0 ≤ most) (h1 : most ≤ 255) :
    Calls Try.prog 8 #[.string s, .int .u8 most] w fun e w' => e = .returned (.bool true) ∧ Below w.heap.size w w' := by
  obtain ⟨mm, hmm⟩ : ∃ mm : Nat, most.tmod 200 = (mm : Int) := ⟨(most % 200).toNat, by rw [Int.tmod_eq_emod_of_nonneg h0]; omega⟩
  have hm2 : mm < 200 := by rw [Int.tmod_eq_emod_of_nonneg h0] at hmm; omega
  have hmi : (0 : Int) ≤ (mm : Int) ∧ (mm : Int) ≤ 199 := by omega
  have hmi1 := hmi.1
  have hmi2 := hmi.2
  have HM2 := Aside0.mk hm2
  go_enter Try.func8, Try.ntmps8
  by_cases hz1 : (s.size : Int) > 2147483647
  · go_wp2_with fail
    go_ret
    exact ⟨rfl, Below.refl _ _⟩
  by_cases hz2 : (s.size : Int) > 2000
  · go_wp2_with fail
    go_ret
    exact ⟨rfl, Below.refl _ _⟩
  have hs2 : s.size ≤ 2000 := by omega
  have HS2 := Aside0.mk hs2
  go_wp2_with fail
  refine (short_any s w hs2).mono ?_
  rintro e w1 ⟨b, rfl, rfl⟩
  cases b
  case false =>
    go_wp2_with fail
    go_ret
    exact ⟨rfl, Below.refl _ _⟩
  case true =>
    obtain ⟨R, hR⟩ : ∃ R, tkA mm [] (bytesOf s) = R := ⟨_, rfl⟩
    have HR := Aside0.mk hR
    have HSp := Aside0.mk (specTokens_any s mm w1 (by omega) (by omega) R hR)
    clear hR hm2 hmi
    go_wp2_with fail
    refine HSp.out.mono ?_
    rintro e w2 ⟨hb, hr⟩
    have HB := Aside0.mk hb
    clear hb HSp
    cases R with
    | wide =>
      simp only at hr
      subst hr
      go_wp2_with fail
      go_ret
      exact ⟨rfl, HB.out⟩
    | cut l =>
      obtain ⟨v, rfl, hv⟩ := hr
      obtain ⟨A, c, rfl⟩ := Kd.R_slice hv
      have HI := Aside0.mk (fun W => implTokens_any s mm W (by have := HS2.out; omega) (by have := HM2.out; omega) _ HR.out (by simp))
      clear hv
      go_wp2_with fail
      refine (HI.out _).mono ?_
      rintro e w3 ⟨hb, v2, rfl, hv2⟩
      obtain ⟨A2, c2, rfl⟩ := Kd.R_slice hv2
      have HB2 := Aside0.mk (HB.out.trans (hb.mono HB.out.size))
      clear hb hv2 HI HB
      go_wp2_with fail
      refine (alive_any _).mono ?_
      rintro e w6 ⟨rfl, hb⟩
      have HB6 := Aside0.mk (HB2.out.trans (hb.mono HB2.out.size))
      clear hb
      go_wp2_with fail
      go_ret
      exact ⟨rfl, HB6.out⟩
    | ok l =>
      obtain ⟨v, rfl, hv⟩ := hr
      obtain ⟨A, c, rfl⟩ := Kd.R_slice hv
      have HI := Aside0.mk (fun W => implTokens_any s mm W (by have := HS2.out; omega) (by have := HM2.out; omega) _ HR.out (by simp))
      have HV := Aside0.mk hv
      clear hv
      go_wp2_with fail
      refine (HI.out _).mono ?_
      rintro e w3 ⟨hb, v2, rfl, hv2⟩
      obtain ⟨A2, c2, rfl⟩ := Kd.R_slice hv2
      have HB2 := Aside0.mk (HB.out.trans (hb.mono HB.out.size))
      have HRR := Aside0.mk (And.intro hv2 (Kd.R_below HV.out hb))
      have hmax : (l.length : Int) ≤ 9223372036854775807 := by have h1 : l.length ≤ maxLen := (Kd.R_reads' hv2).2.2.2.1; simp only [maxLen] at h1; omega
      clear hb hv2 HI HB HV
      go_wp2_with fail
      go_loopg [61] l.length (fun gk v61 wr => ∃ j : Nat, v61 = .int .i64 j ∧ Aside0 (j ≤ l.length ∧ gk = l.length - j) ∧ Aside0 (Below w3.heap.size w3 wr))
      case atStart => exact ⟨0, rfl, ⟨by omega⟩, ⟨Below.refl _ _⟩⟩
      case round =>
        obtain ⟨j, rfl, HJ, HB⟩ := hrel
        by_cases hj : j < l.length
        · obtain ⟨t, ht⟩ : ∃ t, l[j]? = some t := ⟨l[j], List.getElem?_eq_getElem hj⟩
          obtain ⟨g, c', hA, hg, k0, k1, k2, k3, k4, k5, k6⟩ := tkn_at (Kd.R_below HRR.out.1 HB.out) hj t ht
          obtain ⟨g2, c2', hA2, hg2, m0, m1, m2, m3, m4, m5, m6⟩ := tkn_at (Kd.R_below HRR.out.2 HB.out) hj t ht
          injection hA with hA _ hA3
          injection hA2 with hA2 _ hA23
          subst hA hA3 hA2 hA23
          obtain ⟨tc, tb, ti, tf, ts, tn, tg⟩ := t
          simp only at k0 k1 k2 k3 k4 k5 k6 m0 m1 m2 m3 m4 m5 m6
          have HB3 := Aside0.mk (fun (o1 o2 : Obj) => below_alloc (below_alloc HB.out o1) o2)
          clear ht
          go_wp2_with fail
          go_roundg (l.length - (j + 1))
          case measure => have := HJ.out.2; omega
          case rel => exact ⟨j + 1, by go_num, ⟨by omega⟩, ⟨HB3.out _ _⟩⟩
        · have HB4 := Aside0.mk (HB2.out.trans (HB.out.mono HB2.out.size))
          go_wp2_with fail
          refine (alive_any _).mono ?_
          rintro e w6 ⟨rfl, hb⟩
          have HB6 := Aside0.mk (HB4.out.trans (hb.mono HB4.out.size))
          clear hb
          go_wp2_with fail
          go_ret
          exact ⟨rfl, HB6.out⟩
theorem FnPackTokens_row (s : ByteArray) (most : Int) (w : World) (hs : s.size ≤ 140737488351232) (hm : (Lit.int IntKind.u8 most).wf = true) :
    Calls Try.prog 8 #[.string s, .int .u8 most] w fun e w' => e = .returned (.bool true) ∧ Below w.heap.size w w' := by
  have h := Go.bounds_u8 hm
  exact FnPackTokens_walk s most w (by omega) (by omega)
end Go.Proofs.Ytjnookhdiolhgaa
