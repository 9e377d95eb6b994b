/- FnPackCut: the walk. -/
import Derived.Test.YtjnookhdiolhgaaFnPackInner
import Derived.Test.YtjnookhdiolhgaaUp
import Derived.Test.YtjnookhdiolhgaaRd
import Derived.WalkSpells
namespace Go.Proofs.Ytjnookhdiolhgaa
set_option linter.unusedVariables false
set_option linter.unusedSimpArgs false
open Go.RowKit Go.Proofs.YtjnookhdiolhgaaW.PrintWords
open PAll (S26 k26)

/-- A box, and all that is older. -/
structure One (w wi : World) (p : Obj) : Prop where
  bel : Below w.heap.size w wi
  b0 : wi.heap[w.heap.size]? = some p
theorem One.start (w : World) (p : Obj) : One w (w.alloc p) p := ⟨below_alloc (Below.refl _ _) _, heap_alloc_new w _⟩
theorem One.step {w wi wj : World} {p : Obj} (h : One w wi p) (hb : Below wi.heap.size wi wj) : One w wj p := ⟨h.bel.trans (hb.mono h.bel.size), (hb.block _ (blk_lt h.b0)).trans h.b0⟩

theorem cut_unpack (x : S26) (hok : okV x) (hwf : wfV x) (hn : nodes x ≤ 400) (m : Nat) (hm : m < (strOfNums (enc x)).size) (wi : World) :
    Calls Try.prog 29 #[.string ((strOfNums (enc x)).extract 0 m)] wi fun e w' => Below wi.heap.size wi w' ∧ e = .returned (.tuple #[.agg #[.int .i64 0, .bool false, .int .i64 0, .int .u64 0, .string ⟨#[]⟩, .slice none 0 0, .slice none 0 0], .int .i64 0, .int .i64 1]) := by
  have hp := parse_str_cut x m hok hwf (by omega) hm
  have hs := enc_size hok hn
  have hz : ((strOfNums (enc x)).extract 0 m).size ≤ m := by
    have h := congrArg List.length (bytesOf_extract (strOfNums (enc x)) m)
    rw [bytesOf_length, List.length_take] at h
    omega
  have hU := Unpack_any 1002 ((strOfNums (enc x)).extract 0 m) wi (by omega) (by rw [hp]; exact fun h => by cases h)
  rw [hp] at hU
  exact hU

set_option maxHeartbeats 4000000 in
set_option maxRecDepth 100000 in
theorem FnPackCut_walk (x : S26) (A5 : Option Addr) (c5 : Nat) (A6 : Option Addr) (c6 : Nat) (n : Int) (w : World) (hx : In w x A5 c5 A6 c6) :
    Calls Try.prog 9 #[valOf x A5 c5 A6 c6, .int .i64 n] w fun e w' => e = .returned (.bool true) ∧ Below w.heap.size w w' := by
  have HFX := Aside0.mk (fun wi (hb : Below w.heap.size w wi) => (hx.below hb).fits)
  have HGX := Aside0.mk (fun wi (hb : Below w.heap.size w wi) => (hx.below hb).good)
  have HPX := Aside0.mk (fun wi (hb : Below w.heap.size w wi) => (hx.below hb).pack)
  have HSX := Aside0.mk (fun (h : okV x) (hn : nodes x ≤ 400) => enc_size h hn)
  have HUX := Aside0.mk (fun (m : Nat) (h : okV x) (hn : nodes x ≤ 400) (hm : m < (strOfNums (enc x)).size) (wi : World) => cut_unpack x h hx.wf hn m hm wi)
  generalize strOfNums (enc x) = sx at *
  have HT := Aside0.mk (One.start w (.cells #[.int .i64 x.f0, .bool x.f1, .int .i64 x.f2, .int .u64 x.f3, .string x.f4, .slice A5 x.f5.length c5, .slice A6 x.f6.length c6] 26))
  clear hx
  unfold valOf at *
  go_enter Try.func9, Try.ntmps9
  go_wp2_with fail
  refine (HFX.out _ HT.out.bel).mono ?_
  rintro e w1 ⟨r, rfl, hb⟩
  have HT1 := Aside0.mk (HT.out.step hb)
  obtain ⟨p0, p1, p2, p3, p4, p5, p6⟩ := box7 HT1.out.b0
  clear hb HT
  cases r
  case false =>
    go_wp2_with fail
    go_ret
    exact ⟨rfl, HT1.out.bel⟩
  case true =>
    go_wp2_with fail
    refine (HGX.out _ HT1.out.bel).mono ?_
    rintro e w2 ⟨r, rfl, hb, hok⟩
    have HT2 := Aside0.mk (HT1.out.step hb)
    clear p0 p1 p2 p3 p4 p5 p6
    obtain ⟨p0, p1, p2, p3, p4, p5, p6⟩ := box7 HT2.out.b0
    have HOX := Aside0.mk hok
    clear hb HT1 hok
    cases r
    case false =>
      go_wp2_with fail
      go_ret
      exact ⟨rfl, HT2.out.bel⟩
    case true =>
      obtain ⟨ox, nx⟩ := HOX.out rfl
      have hsx : sx.size ≤ 248000 := HSX.out ox nx
      have HK := Aside0.mk (And.intro ox nx)
      clear ox nx HOX
      go_wp2_with fail
      refine (HPX.out _ HT2.out.bel HK.out.1 (by have := HK.out.2; omega)).mono ?_
      rintro e w3 ⟨rfl, hb⟩
      have HT3 := Aside0.mk (HT2.out.step hb)
      clear p0 p1 p2 p3 p4 p5 p6 hb HT2
      by_cases hc : 0 ≤ n ∧ n < sx.size
      · obtain ⟨m, rfl⟩ : ∃ m : Nat, n = m := ⟨n.toNat, by omega⟩
        have hm : m < sx.size := by omega
        have HU := Aside0.mk (HUX.out m HK.out.1 HK.out.2 hm)
        have h1 : decide ((m : Int) < 0) = false := decide_eq_false (by omega)
        have h2 : decide ((m : Int) ≥ (sx.size : Int)) = false := decide_eq_false (by omega)
        have h3 : decide (sx.size ≤ m) = false := decide_eq_false (by omega)
        clear hc HUX
        go_wp2_with fail
        refine (HU.out _).mono ?_
        rintro e w4 ⟨hb, rfl⟩
        have HT4 := Aside0.mk (HT3.out.step hb)
        clear hb HT3
        go_wp2_with fail
        refine (alive_any _).mono ?_
        rintro e w5 ⟨rfl, hb⟩
        have HB := Aside0.mk (hb)
        clear hb
        go_wp2_with fail
        go_ret
        exact ⟨rfl, HT4.out.bel.trans (((below_alloc (Below.refl _ w4) _).trans (HB.out.mono (by rw [World.size_alloc]; omega))).mono HT4.out.bel.size)⟩
      · rcases (show n < 0 ∨ (0 ≤ n ∧ (sx.size : Int) ≤ n) by omega) with h | ⟨h, h'⟩
        all_goals
          clear hc HUX
          go_wp2_with fail
          refine (alive_any _).mono ?_
          rintro e w5 ⟨rfl, hb⟩
          have HT5 := Aside0.mk (HT3.out.step hb)
          clear hb HT3
          go_wp2_with fail
          go_ret
          exact ⟨rfl, HT5.out.bel⟩
theorem FnPackCut_row (x : S26) (A5 : Option Addr) (c5 : Nat) (A6 : Option Addr) (c6 : Nat) (n : Int) (w : World)
    (hwf : wfV x) (h5 : x.f5.length ≤ c5) (h6 : x.f6.length ≤ c6) (hk5 : Kd.C Kd.string w A5 x.f5.length x.f5) (hk6 : Kd.C k26 w A6 x.f6.length x.f6) (hn : (Lit.int IntKind.i64 n).wf = true) :
    Calls Try.prog 9 #[valOf x A5 c5 A6 c6, .int .i64 n] w fun e w' => e = .returned (.bool true) ∧ Below w.heap.size w w' :=
  FnPackCut_walk x A5 c5 A6 c6 n w ⟨hwf, h5, h6, hk5, hk6⟩
end Go.Proofs.Ytjnookhdiolhgaa
