/- FnPackText: the walk. -/
import Derived.Test.YtjnookhdiolhgaaSvp
import Derived.Test.YtjnookhdiolhgaaPlain
import Derived.Test.YtjnookhdiolhgaaFnPackInner
import Derived.Test.YtjnookhdiolhgaaFnPackCut
namespace Go.Proofs.Ytjnookhdiolhgaa
set_option linter.unusedVariables false
set_option linter.unusedSimpArgs false
open Go.RowKit Go.Proofs.YtjnookhdiolhgaaW.PrintWords
open PAll (S26 k26 S35 k35)

set_option maxHeartbeats 1000000 in
set_option maxRecDepth 100000 in
theorem PlainVal_any (x : S26) (A5 : Option Addr) (c5 : Nat) (A6 : Option Addr) (c6 : Nat) (w : World) (hok : okV x) (hn : nodes x ≤ 1000) (l5 : x.f5.length ≤ c5) (l6 : x.f6.length ≤ c6) (k6 : Kd.C k35 w A6 x.f6.length (convAll x.f6)) :
    Calls Try.prog 43 #[valOf x A5 c5 A6 c6] w fun e w' => ∃ r : Bool, e = .returned (.bool r) ∧ Below w.heap.size w w' := by
  have hb : Below w.heap.size w ((w.alloc (.cells #[.int .i64 x.f0, .bool x.f1, .int .i64 x.f2, .int .u64 x.f3, .string x.f4, .slice A5 x.f5.length c5, .slice A6 x.f6.length c6] 35)).alloc (.cells #[.int .i64 3000] 3)) := below_alloc (below_alloc (Below.refl _ _) _) _
  have hc : ((w.alloc (.cells #[.int .i64 x.f0, .bool x.f1, .int .i64 x.f2, .int .u64 x.f3, .string x.f4, .slice A5 x.f5.length c5, .slice A6 x.f6.length c6] 35)).alloc (.cells #[.int .i64 3000] 3)).heap[w.heap.size + 1]? = some (.cells #[.int .i64 3000] 3 (0, 0)) := by
    have h := heap_alloc_new (w.alloc (.cells #[.int .i64 x.f0, .bool x.f1, .int .i64 x.f2, .int .u64 x.f3, .string x.f4, .slice A5 x.f5.length c5, .slice A6 x.f6.length c6] 35)) (.cells #[.int .i64 3000] 3)
    rw [World.size_alloc] at h
    exact h
  have hP := plainVal_any (nodes x) x A5 c5 A6 c6 (w.heap.size + 1) 3000 w _ (Nat.le_refl _) hok (by omega) (by omega) l5 l6 k6 hb (by omega) hc
  have HP := Aside0.mk hP
  have HB := Aside0.mk hb
  clear hP hb hc hok k6 l5 l6
  unfold valOf at *
  go_enter Try.func43, Try.ntmps43
  go_wp2_with fail
  refine (HP.out).mono ?_
  rintro e w1 ⟨r, l', rfl, -, -, -, hg⟩
  have HG := Aside0.mk hg
  clear hg HP
  go_wp2_with fail
  go_ret
  exact ⟨r, rfl, HB.out.grown HG.out HB.out.size (by rintro k hk; injection hk with hk; omega)⟩

set_option maxHeartbeats 1000000 in
set_option maxRecDepth 100000 in
/-- spec.Pack: the reference's bytes, where it speaks. -/
theorem specPack_any (x : S26) (A5 : Option Addr) (c5 : Nat) (A6 : Option Addr) (c6 : Nat) (w : World) (hok : okV x) (hwf : wfV x) (hn : nodes x ≤ 1000) (l5 : x.f5.length ≤ c5) (l6 : x.f6.length ≤ c6)
    (k5 : Kd.C Kd.string w A5 x.f5.length x.f5) (k6 : Kd.C k35 w A6 x.f6.length (convAll x.f6)) :
    Calls Try.prog 19 #[valOf x A5 c5 A6 c6] w fun e w' => ∃ (s : ByteArray) (t : Int), e = .returned (.tuple #[.string s, .int .i64 t]) ∧ (t = 1 → s = strOfNums (enc x)) ∧ Below w.heap.size w w' := by
  have HT := Aside0.mk (PV.start w x.f0 x.f1 x.f2 x.f3 x.f4 A5 x.f5.length c5 A6 x.f6.length c6)
  have HP := Aside0.mk (fun (wi : World) (hb : Below w.heap.size w wi) => PlainVal_any x A5 c5 A6 c6 wi hok hn l5 l6 (Kd.C_below k6 hb))
  have HV := Aside0.mk (fun (wi : World) (hb : Below w.heap.size w wi) => packVal_any (nodes x) x A5 c5 A6 c6 w wi (Nat.le_refl _) hok hwf hn l5 l6 k5 k6 hb)
  clear hok hwf l5 l6 k5 k6
  unfold valOf at *
  go_enter Try.func19, Try.ntmps19
  go_wp2_with fail
  refine (HP.out _ HT.out.bel).mono ?_
  rintro e w1 ⟨r, rfl, hb⟩
  have HT1 := Aside0.mk (HT.out.step hb)
  obtain ⟨p0, p1, p2, p3, p4, p5, p6⟩ := box7 HT1.out.box
  clear hb HT HP
  cases r
  case false =>
    go_wp2_with fail
    go_ret2
    exact ⟨_, _, rfl, fun h => absurd h (by decide), HT1.out.bel⟩
  case true =>
    go_wp2_with fail
    refine (HV.out _ HT1.out.bel).mono ?_
    rintro e w2 ⟨rfl, hb⟩
    have HT2 := Aside0.mk (HT1.out.step hb)
    clear hb HT1 HV p0 p1 p2 p3 p4 p5 p6
    go_wp2_with fail
    go_ret2
    exact ⟨_, _, rfl, fun _ => rfl, HT2.out.bel⟩

theorem text_conv (x : S26) (A5 : Option Addr) (c5 : Nat) (A6 : Option Addr) (c6 : Nat) (w : World) (hx : In w x A5 c5 A6 c6) (hn : nodes x ≤ 400) :
    Calls Try.prog 20 #[valOf x A5 c5 A6 c6] w fun e w' => ∃ A1 c1, e = .returned (valOf x A5 c5 A1 c1) ∧ x.f6.length ≤ c1 ∧ Kd.C k35 w' A1 x.f6.length (convAll x.f6) ∧ Below w.heap.size w w' := by
  refine (specVal_any 400 x A5 c5 A6 c6 w w hn (by omega) hx.l5 hx.l6 hx.k5 hx.k6 (Below.refl _ _)).mono ?_
  rintro e w' ⟨v6, rfl, hr, hb⟩
  obtain ⟨A1, c1, rfl⟩ := Kd.R_slice hr
  obtain ⟨hn1, hnc, hC⟩ := Kd.R_reads' hr
  have hC2 := k35s_C hb hC
  rw [convAll_length] at hC2 hnc ⊢
  exact ⟨A1, c1, rfl, hnc, hC2, hb⟩

set_option maxHeartbeats 2000000 in
set_option maxRecDepth 100000 in
theorem FnPackText_walk (x : S26) (A5 : Option Addr) (c5 : Nat) (A6 : Option Addr) (c6 : Nat) (w : World) (hx : In w x A5 c5 A6 c6) :
    Calls Try.prog 4 #[valOf x A5 c5 A6 c6] w fun e w' => e = .returned (.bool true) ∧ Below w.heap.size w w' := by
  have HFX := Aside0.mk (fun wi (hb : Below w.heap.size w wi) => (hx.below hb).fits)
  have HGX := Aside0.mk (fun wi (hb : Below w.heap.size w wi) => (hx.below hb).good)
  have HPX := Aside0.mk (fun wi (hb : Below w.heap.size w wi) => (hx.below hb).pack)
  have HCX := Aside0.mk (fun wi (hb : Below w.heap.size w wi) (hn : nodes x ≤ 400) => text_conv x A5 c5 A6 c6 wi (hx.below hb) hn)
  have HSX := Aside0.mk (fun wi (hb : Below w.heap.size w wi) (ho : okV x) (hn : nodes x ≤ 400) (A1 : Option Addr) (c1 : Nat) (h6 : x.f6.length ≤ c1) (hC : Kd.C k35 wi A1 x.f6.length (convAll x.f6)) => specPack_any x A5 c5 A1 c1 wi ho hx.wf (by omega) hx.l5 h6 (hx.below hb).k5 hC)
  generalize strOfNums (enc x) = sx at *
  have HT := Aside0.mk (One.start w (.cells #[.int .i64 x.f0, .bool x.f1, .int .i64 x.f2, .int .u64 x.f3, .string x.f4, .slice A5 x.f5.length c5, .slice A6 x.f6.length c6] 26))
  clear hx
  unfold valOf at *
  go_enter Try.func4, Try.ntmps4
  go_wp2_with fail
  refine (HFX.out _ HT.out.bel).mono ?_
  rintro e w1 ⟨r, rfl, hb⟩
  have HT1 := Aside0.mk (HT.out.step hb)
  obtain ⟨p0, p1, p2, p3, p4, p5, p6⟩ := box7 HT1.out.b0
  clear hb HT
  cases r
  case false =>
    go_wp2_with fail
    go_ret
    exact ⟨rfl, HT1.out.bel⟩
  case true =>
    go_wp2_with fail
    refine (HGX.out _ HT1.out.bel).mono ?_
    rintro e w2 ⟨r, rfl, hb, hok⟩
    have HT2 := Aside0.mk (HT1.out.step hb)
    clear p0 p1 p2 p3 p4 p5 p6
    obtain ⟨p0, p1, p2, p3, p4, p5, p6⟩ := box7 HT2.out.b0
    have HOX := Aside0.mk hok
    clear hb HT1 hok
    cases r
    case false =>
      go_wp2_with fail
      go_ret
      exact ⟨rfl, HT2.out.bel⟩
    case true =>
      have HK := Aside0.mk (HOX.out rfl)
      clear HOX
      go_wp2_with fail
      refine (HCX.out _ HT2.out.bel HK.out.2).mono ?_
      rintro e w3 ⟨A1, c1, rfl, h6, hC, hb⟩
      have HT3 := Aside0.mk (HT2.out.step hb)
      clear p0 p1 p2 p3 p4 p5 p6
      obtain ⟨p0, p1, p2, p3, p4, p5, p6⟩ := box7 HT3.out.b0
      have HC := Aside0.mk (And.intro h6 hC)
      clear hb HT2 h6 hC
      go_wp2_with fail
      refine (HSX.out _ HT3.out.bel HK.out.1 HK.out.2 A1 c1 HC.out.1 HC.out.2).mono ?_
      rintro e w4 ⟨sw, t, rfl, hst, hb⟩
      have HT4 := Aside0.mk (HT3.out.step hb)
      clear p0 p1 p2 p3 p4 p5 p6
      obtain ⟨p0, p1, p2, p3, p4, p5, p6⟩ := box7 HT4.out.b0
      have HST := Aside0.mk hst
      clear hb HT3 hst HC HCX HSX
      by_cases ht : t = 1
      · have hsw := HST.out ht
        subst ht
        subst hsw
        clear HST
        go_wp2_with fail
        refine (HPX.out _ HT4.out.bel HK.out.1 (by have := HK.out.2; omega)).mono ?_
        rintro e w5 ⟨rfl, hb⟩
        have HT5 := Aside0.mk (HT4.out.step hb)
        clear p0 p1 p2 p3 p4 p5 p6 hb HT4
        go_wp2_with fail
        refine (alive_any _).mono ?_
        rintro e w6 ⟨rfl, hb⟩
        have HT6 := Aside0.mk (HT5.out.step hb)
        clear hb HT5
        go_wp2_with fail
        go_ret
        exact ⟨rfl, HT6.out.bel⟩
      · clear HST
        go_wp2_with fail
        go_ret
        exact ⟨rfl, HT4.out.bel⟩
theorem FnPackText_row (x : S26) (A5 : Option Addr) (c5 : Nat) (A6 : Option Addr) (c6 : Nat) (w : World)
    (hwf : wfV x) (h5 : x.f5.length ≤ c5) (h6 : x.f6.length ≤ c6) (hk5 : Kd.C Kd.string w A5 x.f5.length x.f5) (hk6 : Kd.C k26 w A6 x.f6.length x.f6) :
    Calls Try.prog 4 #[valOf x A5 c5 A6 c6] w fun e w' => e = .returned (.bool true) ∧ Below w.heap.size w w' :=
  FnPackText_walk x A5 c5 A6 c6 w ⟨hwf, h5, h6, hk5, hk6⟩
end Go.Proofs.Ytjnookhdiolhgaa
