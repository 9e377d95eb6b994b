/- FnFrameRow: the walk. (seat r2) -/
import Derived.Test.YtnbhledkdkchlaaFr6
import Derived.Test.YtnbhledkdkchlaaPlawszzFits2
import Derived.OpenShut
import Derived.WalkSpells
import Derived.ChangeSlices
import Derived.SliceStrings
namespace Go.Proofs.Ytnbhledkdkchlaa
set_option linter.unusedVariables false
set_option linter.unusedSimpArgs false
open Go.RowKit Go.Proofs.YtnbhledkdkchlaaW.PrintWords
open PAll (laws_zzFits2.l0 laws_zzFits2.f)

theorem fits2_l0 (l : List ByteArray) (hl : l.length ≤ 9223372036854775807) (d : Nat) : ∀ i : Nat, i ≤ l.length → l.length - i = d → ∃ r, laws_zzFits2.l0 (d + 1) l (l.length : Int) (i : Int) = some r := by
  induction d with
  | zero =>
    intro i hi hd
    exact ⟨true, by rw [PAll.laws_zzFits2.l0, if_neg (by omega)]⟩
  | succ d ih =>
    intro i hi hd
    have e : wrap64 ((i : Int) + 1) = ((i + 1 : Nat) : Int) := by unfold wrap64; omega
    obtain ⟨r, hr⟩ := ih (i + 1) (by omega) (by omega)
    rw [PAll.laws_zzFits2.l0, if_pos (by omega), if_pos (by omega), if_pos (by omega), e]
    split
    · exact ⟨_, rfl⟩
    · exact ⟨r, hr⟩
theorem fits2_ex (l : List ByteArray) (hl : l.length ≤ 9223372036854775807) : ∃ k r, laws_zzFits2.f k l = some r := by
  obtain ⟨r, hr⟩ := fits2_l0 l hl l.length 0 (Nat.zero_le _) rfl
  refine ⟨l.length + 1, ?_⟩
  unfold laws_zzFits2.f
  split
  · exact ⟨_, rfl⟩
  · exact ⟨r, hr⟩
theorem fits2_any (A : Option Addr) (c : Nat) (l : List ByteArray) (w : World) (hC : Kd.C Kd.string w A l.length l) (hc : l.length ≤ c) :
    Calls Try.prog 33 #[.slice A l.length c] w fun e w' => ∃ r : Bool, e = .returned (.bool r) ∧ Drawn0 w w' := by
  obtain ⟨k, r, hr⟩ := fits2_ex l hC.2.1
  exact (PAll.laws_zzFits2.calls k A c l r w hC hc hr).mono fun e w' h => ⟨r, h⟩
theorem at_enc {α : Type} {enc : α → Value} {h1 : ∀ x, (enc x).oneCell' = true} {w : World} {A : Option Addr} {xs : List α} (h : (Kd.scalar enc h1).C w A xs.length xs) {j : Nat} {x : α} (hx : xs[j]? = some x) : ∃ ad, A = some ad ∧ w.cell? (ad.add j) = some (enc x) := by
  have hj := (List.getElem?_eq_some_iff.1 hx).1
  obtain ⟨ad, e, hc⟩ := ReadsOf.at_ (Kd.reads_of_C (enc := enc) (d := x) (h1 := h1) h) (j : Int) (by omega) (by omega)
  refine ⟨ad, e, ?_⟩
  have e2 : rdOf x xs (j : Int) = x := by unfold rdOf; rw [Int.toNat_natCast, List.getD_eq_getElem?_getD, hx]; rfl
  rw [e2, Int.toNat_natCast] at hc
  exact hc

/-- Frames one behind the other. -/
def rowS : List Int → List ByteArray → ByteArray
  | k :: ks, d :: ds => frameS k d ++ rowS ks ds
  | _, _ => ByteArray.empty
theorem rowS_snoc : ∀ (ks : List Int) (l : List ByteArray) (j : Nat) (k : Int) (d : ByteArray), ks[j]? = some k → l[j]? = some d → rowS (ks.take (j + 1)) (l.take (j + 1)) = rowS (ks.take j) (l.take j) ++ frameS k d := by
  intro ks
  induction ks with
  | nil => intro l j k d h; simp at h
  | cons k0 ks ih =>
    intro l j k d hk hd
    cases l with
    | nil => simp at hd
    | cons d0 l =>
      cases j with
      | zero =>
        simp at hk hd
        subst hk hd
        simp [rowS]
      | succ j =>
        have h := ih l j k d (by simpa using hk) (by simpa using hd)
        rw [List.take_succ_cons, List.take_succ_cons, List.take_succ_cons, List.take_succ_cons]
        simp only [rowS]
        rw [h, ByteArray.append_assoc]
theorem rowS_size : ∀ (ks : List Int) (l : List ByteArray), (∀ d ∈ l, d.size ≤ 300) → (rowS ks l).size ≤ 308 * l.length := by
  intro ks
  induction ks with
  | nil => intro l _; cases l <;> simp [rowS]
  | cons k ks ih =>
    intro l h
    cases l with
    | nil => simp [rowS]
    | cons d l =>
      have h1 := ih l (fun x hx => h x (by simp [hx]))
      have h2 := h d (by simp)
      simp only [rowS, ByteArray.size_append, frameS_size, List.length_cons]
      omega
theorem rowS_drop (ks : List Int) (l : List ByteArray) (j : Nat) (k : Int) (d : ByteArray) (hk : ks[j]? = some k) (hd : l[j]? = some d) : rowS (ks.drop j) (l.drop j) = frameS k d ++ rowS (ks.drop (j + 1)) (l.drop (j + 1)) := by
  have hjk := (List.getElem?_eq_some_iff.1 hk)
  have hjd := (List.getElem?_eq_some_iff.1 hd)
  rw [List.drop_eq_getElem_cons hjk.1, List.drop_eq_getElem_cons hjd.1, hjk.2, hjd.2]
  rfl
theorem extract_behind (k : Int) (d r : ByteArray) : (frameS k d ++ r).extract (d.size + 8) (frameS k d ++ r).size = r := by
  have h1 : (frameS k d).size = d.size + 8 := by rw [frameS_size]; omega
  have h2 : (frameS k d ++ r).size = d.size + 8 + r.size := by rw [ByteArray.size_append, h1]
  rw [h2, ← h1]
  exact ByteArray.extract_append_eq_right (a := frameS k d) (b := r) rfl rfl

set_option maxHeartbeats 4000000 in
set_option maxRecDepth 100000 in
theorem FnFrameRow_walk (A1 : Option Addr) (c1 : Nat) (ks : List Int) (A2 : Option Addr) (c2 : Nat) (l : List ByteArray) (w : World) (hwk : ∀ k ∈ ks, -2147483648 ≤ k ∧ k ≤ 2147483647) (hc1 : ks.length ≤ c1) (hC1 : (Kd.int .i32).C w A1 ks.length ks)
    (hc2 : l.length ≤ c2) (hC2 : Kd.C Kd.string w A2 l.length l) :
    Calls Try.prog 11 #[.slice A1 ks.length c1, .slice A2 l.length c2] w fun e w' => e = .returned (.bool true) ∧ Below w.heap.size w w' := by
  have HF2 := Aside0.mk (fits2_any A2 c2 l w hC2 hc2)
  have HC1 := Aside0.mk hC1
  have HC2 := Aside0.mk hC2
  have HWK := Aside0.mk hwk
  clear hC1 hC2 hwk hc1 hc2
  go_enter Try.func11, Try.ntmps11
  by_cases h1 : (ks.length : Int) > 2147483647
  · go_wp2_with fail
    go_ret
    exact ⟨rfl, Below.refl _ _⟩
  go_wp2_with fail
  refine (HF2.out).mono ?_
  rintro e w1 ⟨r, rfl, ⟨nd, rfl⟩⟩
  have HB1 := Aside0.mk (pw_below_drewN (Below.refl w.heap.size w) nd)
  generalize w.drewN nd = w1 at *
  clear HF2
  cases r
  case false =>
    go_wp2_with fail
    go_ret
    exact ⟨rfl, HB1.out⟩
  by_cases h2 : (l.length : Int) > 8
  · go_wp2_with fail
    go_ret
    exact ⟨rfl, HB1.out⟩
  by_cases h3 : (ks.length : Int) = (l.length : Int)
  · have HKL := Aside0.mk h3
    have hne : ((ks.length : Int) != (l.length : Int)) = false := by rw [h3]; simp
    have HL8 := Aside0.mk (show l.length ≤ 8 by omega)
    have hl8 : (l.length : Int) ≤ 8 := by omega
    have hk8 : (ks.length : Int) ≤ 8 := by omega
    clear h1 h2 h3
    go_wp2_with fail
    go_loopg [5, 34] l.length (fun gk v5 v34 wr => ∃ (j : Nat) (sa : ByteArray), v5 = .string sa ∧ v34 = .int .i64 j ∧ sa.size ≤ 100000 ∧ Aside0 (sa = rowS (ks.take j) (l.take j)) ∧ Aside0 (j ≤ l.length ∧ gk = l.length - j) ∧ Aside0 (∀ d ∈ l.take j, d.size ≤ 300) ∧ Aside0 (Below w.heap.size w wr))
    case atStart => exact ⟨0, _, rfl, rfl, by decide, ⟨by simp [rowS]; rfl⟩, ⟨by omega⟩, ⟨by simp⟩, ⟨HB1.out⟩⟩
    case round =>
      clear HB1
      obtain ⟨j, sa, rfl, rfl, hsa, HS, HJ, HD, HB⟩ := hrel
      by_cases hj : j < l.length
      · have hjk : j < ks.length := by have := HKL.out; omega
        obtain ⟨d, hd⟩ : ∃ d, l[j]? = some d := ⟨_, List.getElem?_eq_getElem hj⟩
        obtain ⟨k, hk⟩ : ∃ k, ks[j]? = some k := ⟨_, List.getElem?_eq_getElem hjk⟩
        obtain ⟨ad, hA, hcd⟩ := at_enc HC2.out hd
        obtain ⟨ak, hAk, hck⟩ := at_enc HC1.out hk
        have hcd2 := pw_cell_below HB.out hcd
        have hck2 := pw_cell_below HB.out hck
        subst hA
        subst hAk
        have HDK := Aside0.mk (And.intro hd hk)
        have hkb := HWK.out k (List.mem_of_getElem? hk)
        have HM := Aside0.mk (fun (hz : d.size ≤ 300) (wi : World) => framed_any k d wi hkb.1 hkb.2 (by omega))
        have HFZ := Aside0.mk (frameS_size k d)
        clear hd hk hcd hck hkb
        by_cases hz : (d.size : Int) > 300
        · go_wp2_with fail
          go_ret
          exact ⟨rfl, HB.out⟩
        · have HZ := Aside0.mk (show d.size ≤ 300 by omega)
          have HSN := Aside0.mk (show rowS (ks.take (j + 1)) (l.take (j + 1)) = sa ++ frameS k d by rw [rowS_snoc ks l j k d HDK.out.2 HDK.out.1, HS.out])
          have HD2 := Aside0.mk (show ∀ x ∈ l.take (j + 1), x.size ≤ 300 by
            intro x hx
            rw [List.take_add_one, HDK.out.1] at hx
            simp only [Option.toList_some, List.mem_append, List.mem_singleton] at hx
            rcases hx with hx | rfl
            · exact HD.out x hx
            · exact HZ.out)
          have HSZ := Aside0.mk (show (sa ++ frameS k d).size ≤ 100000 by
            rw [← HSN.out]
            have h1 := rowS_size (ks.take (j + 1)) (l.take (j + 1)) HD2.out
            have h2 : (l.take (j + 1)).length ≤ 8 := by rw [List.length_take]; have := HL8.out; omega
            omega)
          unfold frameS at *
          have hfz : (strOfNums (frameL k d.size) ++ d).size ≤ 308 := by have := HFZ.out; have := HZ.out; omega
          generalize strOfNums (frameL k d.size) ++ d = fs at *
          clear HFZ
          go_wp2_with fail
          refine (HM.out HZ.out _).mono ?_
          rintro e w2 ⟨rfl, hb⟩
          have HB2 := Aside0.mk (HB.out.trans (hb.mono HB.out.size))
          clear hb HM hcd2 hck2
          go_wp2_with fail
          go_roundg (l.length - (j + 1))
          case measure => have := HJ.out.2; omega
          case rel => exact ⟨j + 1, _, rfl, by go_num, HSZ.out, ⟨HSN.out.symm⟩, ⟨by omega⟩, ⟨HD2.out⟩, ⟨HB2.out⟩⟩
      · have hje : j = l.length := by have := HJ.out.1; omega
        subst hje
        have HDA := Aside0.mk (show ∀ d ∈ l, d.size ≤ 300 by have := HD.out; rwa [List.take_length] at this)
        have HSA := Aside0.mk (show sa = rowS ks l by have := HS.out; rw [List.take_length, show l.length = ks.length by have := HKL.out; omega, List.take_length] at this; exact this)
        clear HD HS HJ hj
        go_wp2_with fail
        go_loopg [5, 53] l.length (fun gk v5 v53 wr => ∃ (j : Nat) (sa : ByteArray), v5 = .string sa ∧ v53 = .int .i64 j ∧ sa.size ≤ 100000 ∧ Aside0 (sa = rowS (ks.drop j) (l.drop j)) ∧ Aside0 (j ≤ l.length ∧ gk = l.length - j) ∧ Aside0 (Below w.heap.size w wr))
        case atStart => exact ⟨0, _, rfl, rfl, hsa, ⟨by rw [HSA.out]; rfl⟩, ⟨by omega⟩, ⟨HB.out⟩⟩
        case round =>
          clear HB HSA hsa
          obtain ⟨j, sb, rfl, rfl, hsb, HS, HJ, HB⟩ := hrel
          by_cases hj : j < l.length
          · have hjk : j < ks.length := by have := HKL.out; omega
            obtain ⟨d, hd⟩ : ∃ d, l[j]? = some d := ⟨_, List.getElem?_eq_getElem hj⟩
            obtain ⟨k, hk⟩ : ∃ k, ks[j]? = some k := ⟨_, List.getElem?_eq_getElem hjk⟩
            obtain ⟨ad, hA, hcd⟩ := at_enc HC2.out hd
            obtain ⟨ak, hAk, hck⟩ := at_enc HC1.out hk
            have hcd2 := pw_cell_below HB.out hcd
            subst hA
            subst hAk
            have hkb := HWK.out k (List.mem_of_getElem? hk)
            have hdz := HDA.out d (List.mem_of_getElem? hd)
            have HSD := Aside0.mk (HS.out.trans (rowS_drop ks l j k d hk hd))
            have HRZ := Aside0.mk (show (rowS (ks.drop (j + 1)) (l.drop (j + 1))).size ≤ 2464 by
              have h1 := rowS_size (ks.drop (j + 1)) (l.drop (j + 1)) (fun x hx => HDA.out x (List.mem_of_mem_drop hx))
              have h2 : (l.drop (j + 1)).length ≤ 8 := by rw [List.length_drop]; have := HL8.out; omega
              omega)
            have HR := Aside0.mk (fun (wi : World) => fr_frame k d (rowS (ks.drop (j + 1)) (l.drop (j + 1))) wi hkb.1 hkb.2 hdz (by have := HRZ.out; omega))
            have HEX := Aside0.mk (extract_behind k d (rowS (ks.drop (j + 1)) (l.drop (j + 1))))
            rw [← HSD.out] at HR HEX
            have HSB := Aside0.mk (show sb.size = 8 + d.size + (rowS (ks.drop (j + 1)) (l.drop (j + 1))).size by rw [HSD.out, ByteArray.size_append, frameS_size])
            generalize hrb : rowS (ks.drop (j + 1)) (l.drop (j + 1)) = rb at *
            have HRB := Aside0.mk hrb
            clear hrb
            have hwk2 : IntKind.i64.wrap k = k := by rw [IntKind.wrap_i64]; omega
            have hsbz : (sb.size : Int) - (d.size : Int) - 8 = (rb.size : Int) := by have := HSB.out; omega
            have hd8 : d.size + 8 ≤ sb.size := by have := HSB.out; omega
            have hd8i : (d.size : Int) + 8 ≤ (sb.size : Int) := by omega
            have hex := HEX.out
            have HCK := Aside0.mk hck
            clear HS HSD HEX hd hk hcd hck hkb HSB
            go_wp2_with fail
            refine (HR.out _).mono ?_
            rintro e w2 ⟨rfl, hb⟩
            have HB2 := Aside0.mk (HB.out.trans (hb.mono HB.out.size))
            have hck3 := pw_cell_below HB2.out HCK.out
            clear hb HR hcd2 HB
            go_wp2_with fail
            go_roundg (l.length - (j + 1))
            case measure => have := HJ.out.2; omega
            case rel => exact ⟨j + 1, rb, by first | rfl | (rw [hex]), by go_num, by have := HRZ.out; omega, ⟨HRB.out.symm⟩, ⟨by omega⟩, ⟨HB2.out⟩⟩
          · have hje : j = l.length := by have := HJ.out.1; omega
            subst hje
            go_wp2_with fail
            refine (alive_any _).mono ?_
            rintro e w6 ⟨rfl, hb⟩
            have HB6 := Aside0.mk (HB.out.trans (hb.mono HB.out.size))
            clear hb
            go_wp2_with fail
            go_ret
            exact ⟨rfl, HB6.out⟩
  · have hne : ((ks.length : Int) != (l.length : Int)) = true := by simpa using h3
    go_wp2_with fail
    go_ret
    exact ⟨rfl, HB1.out⟩
theorem FnFrameRow_row (A1 : Option Addr) (c1 : Nat) (ks : List Int) (A2 : Option Addr) (c2 : Nat) (l : List ByteArray) (w : World) (hwk : ∀ n ∈ ks, (Lit.int IntKind.i32 n).wf = true) (hc1 : ks.length ≤ c1) (hC1 : (Kd.int .i32).C w A1 ks.length ks)
    (hc2 : l.length ≤ c2) (hC2 : Kd.C Kd.string w A2 l.length l) :
    Calls Try.prog 11 #[.slice A1 ks.length c1, .slice A2 l.length c2] w fun e w' => e = .returned (.bool true) ∧ Below w.heap.size w w' := by
  exact FnFrameRow_walk A1 c1 ks A2 c2 l w (fun k hk => by have := Go.bounds_i32 (hwk k hk); omega) hc1 hC1 hc2 hC2
end Go.Proofs.Ytnbhledkdkchlaa
