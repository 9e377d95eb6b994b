/- FnRespError: the walk. (seat r3.Z) -/
import Derived.Test.YtkogipaaioibaaaGreatAlive
import Derived.Test.YtkogipaaioibaaaGreatEd
namespace Go.Proofs.YtkogipaaioibaaaGreat
set_option linter.unusedVariables false
set_option linter.unusedSimpArgs false
open Go.RowKit Go.Proofs.YtkogipaaioibaaaGreatW.PrintWords

theorem at_enc {α : Type} {enc : α → Value} {h1 : ∀ x, (enc x).oneCell' = true} {w : World} {A : Option Addr} {xs : List α} (h : (Kd.scalar enc h1).C w A xs.length xs) {j : Nat} {x : α} (hx : xs[j]? = some x) : ∃ ad, A = some ad ∧ w.cell? (ad.add j) = some (enc x) := by
  have hj := (List.getElem?_eq_some_iff.1 hx).1
  obtain ⟨ad, e, hc⟩ := ReadsOf.at_ (Kd.reads_of_C (enc := enc) (d := x) (h1 := h1) h) (j : Int) (by omega) (by omega)
  refine ⟨ad, e, ?_⟩
  have e2 : rdOf x xs (j : Int) = x := by unfold rdOf; rw [Int.toNat_natCast, List.getD_eq_getElem?_getD, hx]; rfl
  rw [e2] at hc
  simpa using hc
theorem cls_kind {m kind addr : ByteArray} (h : Cls m kind addr) : kind.size ≤ 1000 := by
  rcases h with ⟨i, hi, _, rfl, _⟩ | ⟨_, rfl, _⟩
  · have hcs : i = 0 ∨ i = 1 ∨ i = 2 ∨ i = 3 ∨ i = 4 ∨ i = 5 ∨ i = 6 ∨ i = 7 ∨ i = 8 ∨ i = 9 ∨ i = 10 ∨ i = 11 ∨ i = 12 ∨ i = 13 := by omega
    rcases hcs with rfl | rfl | rfl | rfl | rfl | rfl | rfl | rfl | rfl | rfl | rfl | rfl | rfl | rfl <;> decide
  · decide
set_option maxHeartbeats 4000000 in
set_option maxRecDepth 100000 in
theorem FnRespError_walk (line : ByteArray) (w : World) (hs : line.size ≤ 140737488351232) :
    Calls Tryz.prog 3 #[.string line] w fun e w' => e = .returned (.bool true) ∧ Below w.heap.size w w' := by
  by_cases h1 : line.size ≤ 200
  case neg =>
    have h1' : 200 < line.size := by omega
    go_enter Tryz.func3, Tryz.ntmps3
    go_wp2_with fail
    all_goals
      go_ret
      exact ⟨rfl, Below.refl _ _⟩
  have h1' : (line.size : Int) ≤ 200 := by omega
  obtain ⟨kind, addr, told, e1, hE⟩ := ek_law line h1
  have HS := Lib.hid (fun w => PAll.spec_ErrorKind.calls 2000 line kind addr told w e1)
  clear e1
  by_cases ht : told = 1
  case neg =>
    have ht2 : (told == 1) = false := beq_eq_false_iff_ne.2 ht
    have ht3 : (told != 1) = true := bne_iff_ne.2 ht
    clear hE ht
    go_enter Tryz.func3, Tryz.ntmps3
    go_wp2_with fail
    refine (HS.out _).mono ?_
    rintro e w1 ⟨rfl, hb⟩
    have HB := Lib.hid hb
    clear hb
    go_wp2_with fail
    go_ret
    exact ⟨rfl, HB.out⟩
  subst ht
  obtain ⟨hz1, hu, hr, hc⟩ := hE rfl
  have hkz := cls_kind hc
  have HI := Lib.hid (fun w => errorKind_any line kind addr w h1 hz1 hu hr hc)
  have HKZ := Lib.hid hkz
  clear hE hu hr hc hkz
  by_cases hk : kind.size = 0
  · obtain rfl : kind = ⟨#[]⟩ := by
      apply L_inj
      have := L_len kind
      rw [hk] at this
      rw [List.eq_nil_of_length_eq_zero this]
      rfl
    clear hk HKZ
    go_enter Tryz.func3, Tryz.ntmps3
    go_wp2_with fail
    refine (HS.out _).mono ?_
    rintro e w1 ⟨rfl, hb⟩
    have HB := Lib.hid hb
    clear hb
    go_wp2_with fail
    refine (HI.out _).mono ?_
    rintro e w2 ⟨v, rfl, hR, hb⟩
    obtain ⟨A, c, rfl⟩ := Kd.R_slice hR
    have HB2 := Lib.hid (HB.out.trans (hb.mono HB.out.size))
    clear hb hR HB HI HS
    go_wp2_with fail
    refine (alive_any _).mono ?_
    rintro e w3 ⟨rfl, hb⟩
    have HB3 := Lib.hid (HB2.out.trans (hb.mono HB2.out.size))
    clear hb
    go_wp2_with fail
    go_ret
    exact ⟨rfl, HB3.out⟩
  · have hke : ksOf kind = [kind] := by unfold ksOf; rw [if_neg hk]
    have hne : ¬ kind.toList = [] := fun h => hk (by rw [toL] at h; rw [← L_len, h]; rfl)
    have hne2 : kind.toList.isEmpty = false := by cases h : kind.toList with | nil => exact absurd h hne | cons a r => rfl
    have HI2 := Lib.hid (fun w => (HI.out w).mono (fun e w' h => (hke ▸ h : EkR w [kind] addr (line.extract 1 line.size) e w')))
    have HLo := Lib.hid (fun w => lower_any kind w HKZ.out)
    clear hk hke HI
    go_enter Tryz.func3, Tryz.ntmps3
    go_wp2_with fail
    refine (HS.out _).mono ?_
    rintro e w1 ⟨rfl, hb⟩
    have HB := Lib.hid hb
    clear hb
    go_wp2_with fail
    refine (HI2.out _).mono ?_
    rintro e w2 ⟨v, rfl, hR, hb⟩
    obtain ⟨A, c, rfl, hlc, hC⟩ := Kd.R_reads hR
    obtain ⟨ad, rfl, hcell⟩ := at_enc hC (j := 0) (x := kind) rfl
    rw [show ad.add 0 = ad by cases ad; unfold Addr.add; split <;> simp_all] at hcell
    have HB2 := Lib.hid (HB.out.trans (hb.mono HB.out.size))
    clear hb hR HB HI2 HS hC
    go_wp2_with fail
    refine (HLo.out _).mono ?_
    rintro e w3 ⟨rfl, hb⟩
    have HB3 := Lib.hid (HB2.out.trans (hb.mono HB2.out.size))
    clear hb
    go_wp2_with fail
    refine (HLo.out _).mono ?_
    rintro e w4 ⟨rfl, hb⟩
    have HB4 := Lib.hid (HB3.out.trans (hb.mono HB3.out.size))
    clear hb
    go_wp2_with fail
    refine (alive_any _).mono ?_
    rintro e w5 ⟨rfl, hb⟩
    have HB5 := Lib.hid (HB4.out.trans (hb.mono HB4.out.size))
    clear hb
    go_wp2_with fail
    go_ret
    exact ⟨rfl, HB5.out⟩
end Go.Proofs.YtkogipaaioibaaaGreat
