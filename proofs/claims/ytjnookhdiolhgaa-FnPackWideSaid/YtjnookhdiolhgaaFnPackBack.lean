/- FnPackBack: the walk. -/
import Derived.Test.YtjnookhdiolhgaaFnPackCut
import Derived.Test.YtjnookhdiolhgaaUnpackAll
import Derived.Test.YtjnookhdiolhgaaSame
import Derived.Deep.RegionHeld3
namespace Go.Proofs.Ytjnookhdiolhgaa
set_option linter.unusedVariables false
set_option linter.unusedSimpArgs false
open Go.RowKit Go.Proofs.YtjnookhdiolhgaaW.PrintWords
open PAll (S26 k26)
open Go.Proofs.YtjnookhdiolhgaaW.PrintLast (goes_)

theorem parses_one (x : S26) (hok : okV x) (hwf : wfV x) (hn : nodes x ≤ 400) : Parses 1002 (bytesOf (strOfNums (enc x))) [x] := by
  refine ⟨?_, [], parse_str x hok hwf (by omega), rfl⟩
  have h := parse_str x hok hwf (by omega)
  intro he
  rw [he] at h
  have h2 := (parse_len 1002 0 [] [] x (fun y hy => by cases hy) h).1
  exact Nat.lt_irrefl _ h2
theorem back_all (x : S26) (hok : okV x) (hwf : wfV x) (hn : nodes x ≤ 400) (wi : World) :
    Calls Try.prog 34 #[.string (strOfNums (enc x))] wi fun e w' => Below wi.heap.size wi w' ∧ ∃ g n c A5 c5 A6 c6, n = 1 ∧ e = .returned (.tuple #[.slice (some ⟨g, 0, none⟩) n c, .int .i64 0]) ∧ x.f5.length ≤ c5 ∧ x.f6.length ≤ c6 ∧ Kd.C Kd.string w' A5 x.f5.length x.f5 ∧ Kd.C k26 w' A6 x.f6.length x.f6 ∧
      w'.cell? ⟨g, 0, none⟩ = some (.int .i64 x.f0) ∧ w'.cell? ⟨g, 1, none⟩ = some (.bool x.f1) ∧ w'.cell? ⟨g, 2, none⟩ = some (.int .i64 x.f2) ∧ w'.cell? ⟨g, 3, none⟩ = some (.int .u64 x.f3) ∧ w'.cell? ⟨g, 4, none⟩ = some (.string x.f4) ∧
      w'.cell? ⟨g, 5, none⟩ = some (.slice A5 x.f5.length c5) ∧ w'.cell? ⟨g, 6, none⟩ = some (.slice A6 x.f6.length c6) := by
  have hs := enc_size hok hn
  refine (UnpackAll_any 1002 (strOfNums (enc x)) [x] wi (by omega) (parses_one x hok hwf hn)).mono ?_
  rintro e w' ⟨hb, v, rfl, hr⟩
  obtain ⟨g, c, rfl, -, -, -⟩ := Kd.R_form hr (by simp)
  obtain ⟨hn1, hnc, hC⟩ := Kd.R_reads' hr
  obtain ⟨ad, A5, c5, A6, c6, had, g0, g1, g2, g3, g4, g5, g6, l5, q5, l6, q6⟩ := PAll.at_T26 hC 0 (by omega) (by simp)
  have hry : PAll.rd_T26 [x] (0 : Int) = x := rfl
  rw [hry] at g0 g1 g2 g3 g4 g5 g6 l5 q5 l6 q6
  injection had with had
  subst had
  exact ⟨hb, g, 1, c, A5, c5, A6, c6, rfl, rfl, l5, l6, q5, q6, g0, g1, g2, g3, g4, g5, g6⟩

theorem back_held {w4 wi : World} (h : Below w4.heap.size w4 wi) {a0 a1 a2 a3 a4 a5 a6 b0 b1 b2 b3 b4 b5 b6 : Addr} {u0 u1 u2 u3 u4 u5 u6 v0 v1 v2 v3 v4 v5 v6 : Value}
    (g0 : w4.cell? a0 = some u0) (g1 : w4.cell? a1 = some u1) (g2 : w4.cell? a2 = some u2) (g3 : w4.cell? a3 = some u3) (g4 : w4.cell? a4 = some u4) (g5 : w4.cell? a5 = some u5) (g6 : w4.cell? a6 = some u6)
    (p0 : w4.cell? b0 = some v0) (p1 : w4.cell? b1 = some v1) (p2 : w4.cell? b2 = some v2) (p3 : w4.cell? b3 = some v3) (p4 : w4.cell? b4 = some v4) (p5 : w4.cell? b5 = some v5) (p6 : w4.cell? b6 = some v6) :
    Below w4.heap.size w4 wi ∧ wi.cell? a0 = some u0 ∧ wi.cell? a1 = some u1 ∧ wi.cell? a2 = some u2 ∧ wi.cell? a3 = some u3 ∧ wi.cell? a4 = some u4 ∧ wi.cell? a5 = some u5 ∧ wi.cell? a6 = some u6 ∧
      wi.cell? b0 = some v0 ∧ wi.cell? b1 = some v1 ∧ wi.cell? b2 = some v2 ∧ wi.cell? b3 = some v3 ∧ wi.cell? b4 = some v4 ∧ wi.cell? b5 = some v5 ∧ wi.cell? b6 = some v6 :=
  ⟨h, pw_cell_below h g0, pw_cell_below h g1, pw_cell_below h g2, pw_cell_below h g3, pw_cell_below h g4, pw_cell_below h g5, pw_cell_below h g6, pw_cell_below h p0, pw_cell_below h p1, pw_cell_below h p2, pw_cell_below h p3, pw_cell_below h p4, pw_cell_below h p5, pw_cell_below h p6⟩

set_option maxHeartbeats 1000000 in
set_option maxRecDepth 100000 in
theorem FnPackBack_walk (x : S26) (A5 : Option Addr) (c5 : Nat) (A6 : Option Addr) (c6 : Nat) (w : World) (hx : In w x A5 c5 A6 c6) :
    Calls Try.prog 11 #[valOf x A5 c5 A6 c6] w fun e w' => e = .returned (.bool true) ∧ Below w.heap.size w w' := by
  have HFX := Aside0.mk (fun wi (hb : Below w.heap.size w wi) => (hx.below hb).fits)
  have HGX := Aside0.mk (fun wi (hb : Below w.heap.size w wi) => (hx.below hb).good)
  have HPX := Aside0.mk (fun wi (hb : Below w.heap.size w wi) => (hx.below hb).pack)
  have HIX := Aside0.mk (fun wi (hb : Below w.heap.size w wi) => hx.below hb)
  have HSX := Aside0.mk (fun (h : okV x) (hn : nodes x ≤ 400) => enc_size h hn)
  have HUX := Aside0.mk (fun (h : okV x) (hn : nodes x ≤ 400) (wi : World) => back_all x h hx.wf hn wi)
  generalize strOfNums (enc x) = sx at *
  have HT := Aside0.mk (One.start w (.cells #[.int .i64 x.f0, .bool x.f1, .int .i64 x.f2, .int .u64 x.f3, .string x.f4, .slice A5 x.f5.length c5, .slice A6 x.f6.length c6] 26))
  clear hx
  unfold valOf at *
  go_enter Try.func11, Try.ntmps11
  go_wp2_with fail
  refine (HFX.out _ HT.out.bel).mono ?_
  rintro e w1 ⟨r, rfl, hb⟩
  have HT1 := Aside0.mk (HT.out.step hb)
  obtain ⟨p0, p1, p2, p3, p4, p5, p6⟩ := box7 HT1.out.b0
  clear hb HT
  cases r
  case false =>
    go_wp2_with fail
    go_ret
    exact ⟨rfl, HT1.out.bel⟩
  case true =>
    go_wp2_with fail
    refine (HGX.out _ HT1.out.bel).mono ?_
    rintro e w2 ⟨r, rfl, hb, hok⟩
    have HT2 := Aside0.mk (HT1.out.step hb)
    clear p0 p1 p2 p3 p4 p5 p6
    obtain ⟨p0, p1, p2, p3, p4, p5, p6⟩ := box7 HT2.out.b0
    have HOX := Aside0.mk hok
    clear hb HT1 hok
    cases r
    case false =>
      go_wp2_with fail
      go_ret
      exact ⟨rfl, HT2.out.bel⟩
    case true =>
      obtain ⟨ox, nx⟩ := HOX.out rfl
      have hsx : sx.size ≤ 248000 := HSX.out ox nx
      have HK := Aside0.mk (And.intro ox nx)
      clear ox nx HOX
      go_wp2_with fail
      refine (HPX.out _ HT2.out.bel HK.out.1 (by have := HK.out.2; omega)).mono ?_
      rintro e w3 ⟨rfl, hb⟩
      have HT3 := Aside0.mk (HT2.out.step hb)
      clear p0 p1 p2 p3 p4 p5 p6 hb HT2
      have HU := Aside0.mk (HUX.out HK.out.1 HK.out.2)
      clear HUX
      go_wp2_with fail
      refine (HU.out _).mono ?_
      rintro e w4 ⟨hb, g, n, c, B5, d5, B6, d6, hn, rfl, l5, l6, q5, q6, g0, g1, g2, g3, g4, g5, g6⟩
      have hn1 : (n : Int) = 1 := by omega
      have hn2 : 0 < n := by omega
      clear hn
      have HT4 := Aside0.mk (HT3.out.step hb)
      have HS := Aside0.mk (fun (wi : World) (hw : Below w4.heap.size w4 wi) => same_any x HK.out.1 (by have := HK.out.2; omega) B5 d5 B6 d6 A5 c5 A6 c6 wi (Kd.C_below q5 hw) l5 (Kd.C_below q6 hw) l6 (HIX.out wi (HT4.out.bel.trans (hw.mono HT4.out.bel.size))).k5 (HIX.out wi (HT4.out.bel.trans (hw.mono HT4.out.bel.size))).l5 (HIX.out wi (HT4.out.bel.trans (hw.mono HT4.out.bel.size))).k6 (HIX.out wi (HT4.out.bel.trans (hw.mono HT4.out.bel.size))).l6)
      obtain ⟨p0, p1, p2, p3, p4, p5, p6⟩ := box7 HT4.out.b0
      clear hb HT3 l5 l6 q5 q6 HU HIX HFX HGX HPX HSX HK
      go_wp2_with fail
      have HB := Aside0.mk (And.intro HT4.out.bel trivial)
      go_region_held3 (fun wi : World => Below w4.heap.size w4 wi ∧ wi.cell? ⟨g, 0, none⟩ = some (.int .i64 x.f0) ∧ wi.cell? ⟨g, 1, none⟩ = some (.bool x.f1) ∧ wi.cell? ⟨g, 2, none⟩ = some (.int .i64 x.f2) ∧ wi.cell? ⟨g, 3, none⟩ = some (.int .u64 x.f3) ∧ wi.cell? ⟨g, 4, none⟩ = some (.string x.f4) ∧ wi.cell? ⟨g, 5, none⟩ = some (.slice B5 x.f5.length d5) ∧ wi.cell? ⟨g, 6, none⟩ = some (.slice B6 x.f6.length d6) ∧
          wi.cell? ⟨w.heap.size, 0, none⟩ = some (.int .i64 x.f0) ∧ wi.cell? ⟨w.heap.size, 1, none⟩ = some (.bool x.f1) ∧ wi.cell? ⟨w.heap.size, 2, none⟩ = some (.int .i64 x.f2) ∧ wi.cell? ⟨w.heap.size, 3, none⟩ = some (.int .u64 x.f3) ∧ wi.cell? ⟨w.heap.size, 4, none⟩ = some (.string x.f4) ∧ wi.cell? ⟨w.heap.size, 5, none⟩ = some (.slice A5 x.f5.length c5) ∧ wi.cell? ⟨w.heap.size, 6, none⟩ = some (.slice A6 x.f6.length c6))
        (first
          | exact back_held (below_drew (Below.refl _ _)) g0 g1 g2 g3 g4 g5 g6 p0 p1 p2 p3 p4 p5 p6
          | exact back_held ((‹Below w4.heap.size w4 _ ∧ _›).1.trans (hb5.mono (‹Below w4.heap.size w4 _ ∧ _›).1.size)) g0 g1 g2 g3 g4 g5 g6 p0 p1 p2 p3 p4 p5 p6)
        (first
          | (go_at_call 32; refine (HS.out _ (‹Below w4.heap.size w4 _ ∧ _›).1).mono ?_; rintro e w5 ⟨rfl, hb5⟩)
          | (go_at_call 18; refine (alive_any _).mono ?_; rintro e w6 ⟨rfl, hb5⟩))
      all_goals
        go_wp2_with fail
        go_ret
        exact ⟨rfl, HT4.out.bel.trans ((‹Below w4.heap.size w4 _ ∧ _›).1.mono HT4.out.bel.size)⟩
theorem FnPackBack_row (x : S26) (A5 : Option Addr) (c5 : Nat) (A6 : Option Addr) (c6 : Nat) (w : World)
    (hwf : wfV x) (h5 : x.f5.length ≤ c5) (h6 : x.f6.length ≤ c6) (hk5 : Kd.C Kd.string w A5 x.f5.length x.f5) (hk6 : Kd.C k26 w A6 x.f6.length x.f6) :
    Calls Try.prog 11 #[valOf x A5 c5 A6 c6] w fun e w' => e = .returned (.bool true) ∧ Below w.heap.size w w' :=
  FnPackBack_walk x A5 c5 A6 c6 w ⟨hwf, h5, h6, hk5, hk6⟩
end Go.Proofs.Ytjnookhdiolhgaa
