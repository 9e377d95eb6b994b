/- FnCommandName: the walk. (seat r2) -/
import Derived.Test.YtnbhledkdkchlaaFnCommandText
import Derived.Test.YtnbhledkdkchlaaCmdStr
namespace Go.Proofs.Ytnbhledkdkchlaa
set_option linter.unusedVariables false
set_option linter.unusedSimpArgs false
open Go.RowKit Go.Proofs.YtnbhledkdkchlaaW.PrintWords
open PAll (info5)

set_option maxHeartbeats 2000000 in
set_option maxRecDepth 100000 in
theorem commandName_any (name body : ByteArray) (hb : Bool) (A : Option Addr) (c : Nat) (l : List ByteArray) (w : World) (hC : Kd.C Kd.string w A l.length l) (hz : CmdZ name l body) :
    Calls Try.prog 26 #[.agg #[.string name, .slice A l.length c, .string body, .bool hb]] w fun e w' =>
      e = .returned (.string (strOfNums (bytesOf name ++ parL l))) ∧ Below w.heap.size w w' := by
  have hbW : Below w.heap.size w (w.alloc (.cells #[.string name, .slice A l.length c, .string body, .bool hb] 35)) := below_alloc (Below.refl _ _) _
  have HM := Aside0.mk (made_any name body hb A c l (w.alloc (.cells #[.string name, .slice A l.length c, .string body, .bool hb] 35)) (Kd.C_below hC hbW) hz.1 hz.2.1 hz.2.2.1 hz.2.2.2)
  have HBW := Aside0.mk hbW
  have HS := Aside0.mk (fun {B0 cp nb nc : Nat} {v1 vb : Value} {ps : List (Nat × Nat × Nat)} (w3 : World) (hc : CmdB w3 B0 cp nb nc v1 vb ps name l (if hb then some body else none)) => cmdString_any w3 hc hz.1 hz.2.1 hz.2.2.1)
  clear hz hbW hC
  obtain ⟨bo, hbo⟩ : ∃ bo, bo = (if hb then some body else none) := ⟨_, rfl⟩
  rw [← hbo] at HM HS
  clear hbo
  go_enter Try.func26, Try.ntmps26
  go_wp2_with fail
  refine (HM.out).mono ?_
  rintro e w3 ⟨cp, nb, nc, v1, vb, ps, rfl, hcp, hlt, hbel, hcmd⟩
  have HB3 := Aside0.mk (HBW.out.trans (hbel.mono HBW.out.size))
  have HCM := Aside0.mk hcmd
  clear hcmd hbel HM HBW hlt hcp
  go_wp2_with fail
  refine (HS.out _ HCM.out).mono ?_
  rintro e w4 ⟨rfl, hb4⟩
  have HB4 := Aside0.mk (HB3.out.trans (hb4.mono HB3.out.size))
  clear hb4 HS HCM HB3
  go_wp2_with fail
  go_ret
  exact ⟨rfl, HB4.out⟩

set_option maxHeartbeats 4000000 in
set_option maxRecDepth 100000 in
theorem FnCommandName_walk (name body : ByteArray) (hb : Bool) (A : Option Addr) (c : Nat) (l : List ByteArray) (w : World) (hC : Kd.C Kd.string w A l.length l) (hlc : l.length ≤ c) :
    Calls Try.prog 7 #[.agg #[.string name, .slice A l.length c, .string body, .bool hb]] w fun e w' => e = .returned (.bool true) ∧ Below w.heap.size w w' := by
  have HX0 := Aside0.mk (BX.new w #[.string name, .slice A l.length c, .string body, .bool hb])
  have HF := Aside0.mk (fits1_any A c name body hb l _ (Kd.C_below hC HX0.out.bel) hlc)
  have HC := Aside0.mk hC
  clear hC hlc
  go_enter Try.func7, Try.ntmps7
  go_wp2_with fail
  refine (HF.out).mono ?_
  rintro e w1 ⟨r, rfl, hbel⟩
  have HX := Aside0.mk (HX0.out.step hbel)
  clear HX0 HF hbel
  cases r
  case false =>
    go_wp2_with fail
    go_ret
    exact ⟨rfl, HX.out.bel⟩
  have e0 := blk_cell HX.out.box 0
  have e1 := blk_cell HX.out.box 1
  have e2 := blk_cell HX.out.box 2
  have e3 := blk_cell HX.out.box 3
  by_cases h1 : (name.size : Int) > 60
  · go_wp2_with fail
    go_ret
    exact ⟨rfl, HX.out.bel⟩
  by_cases h2 : (l.length : Int) > 8
  · go_wp2_with fail
    go_ret
    exact ⟨rfl, HX.out.bel⟩
  by_cases h3 : (body.size : Int) > 300
  · go_wp2_with fail
    go_ret
    exact ⟨rfl, HX.out.bel⟩
  have hn60 : name.size ≤ 60 := by omega
  have hl8 : l.length ≤ 8 := by omega
  have hb300 : body.size ≤ 300 := by omega
  go_wp2_with fail
  go_loopg [3, 30] l.length (fun gk v3 v42 wr => ∃ (j : Nat) (sa : ByteArray), v3 = .string sa ∧ v42 = .int .i64 j ∧ sa.size ≤ 60 + 61 * j ∧ Aside0 (bytesOf sa = bytesOf name ++ parL (l.take j)) ∧ Aside0 (j ≤ l.length ∧ gk = l.length - j) ∧ Aside0 (∀ d ∈ l.take j, d.size ≤ 60) ∧ wr = w1)
  case atStart => exact ⟨0, _, rfl, rfl, by omega, ⟨by simp [parL]⟩, ⟨by omega⟩, ⟨by simp⟩, rfl⟩
  case round =>
    obtain ⟨j, sa, rfl, rfl, hsa, HS, HJ, HD, rfl⟩ := hrel
    by_cases hj : j < l.length
    · obtain ⟨d, hd⟩ : ∃ d, l[j]? = some d := ⟨_, List.getElem?_eq_getElem hj⟩
      obtain ⟨ad, hA, hcd⟩ := at_enc HC.out hd
      have hcd2 := pw_cell_below HX.out.bel hcd
      subst hA
      have HDD := Aside0.mk hd
      clear hd hcd
      by_cases hz : (d.size : Int) > 60
      · go_wp2_with fail
        go_ret
        exact ⟨rfl, HX.out.bel⟩
      · have HDZ := Aside0.mk (show d.size ≤ 60 by omega)
        have hd60 : d.size ≤ 60 := by omega
        have hsa8 : sa.size ≤ 1000 := by omega
        have hdz : ((⟨#[32]⟩ : ByteArray) ++ d).size ≤ 61 := by rw [ByteArray.size_append]; show 1 + d.size ≤ 61; omega
        go_wp2_with fail
        go_roundg (l.length - (j + 1))
        case measure => have := HJ.out.2; omega
        case rel =>
          refine ⟨j + 1, sa ++ ((⟨#[32]⟩ : ByteArray) ++ d), rfl, by go_num, ?_, ⟨?_⟩, ⟨by omega⟩, ⟨?_⟩, rfl⟩
          · rw [ByteArray.size_append]
            omega
          · rw [fr_bytes_append, bytes_blank, HS.out, parL_snoc l j d HDD.out]
            simp
          · intro x hx
            rw [List.take_add_one, HDD.out] at hx
            simp only [Option.toList_some, List.mem_append, List.mem_singleton] at hx
            rcases hx with hx | rfl
            · exact HD.out x hx
            · exact HDZ.out
    · have hje : j = l.length := by have := HJ.out.1; omega
      subst hje
      have HD2 := Aside0.mk (show ∀ d ∈ l, d.size ≤ 60 by have := HD.out; rwa [List.take_length] at this)
      have HE := Aside0.mk (show strOfNums (bytesOf name ++ parL l) = sa from str_of_bytes (by have := HS.out; rwa [List.take_length] at this))
      clear HD HS HJ
      have HCT := Aside0.mk (fun (wi : World) (hb2 : Below w.heap.size w wi) => commandName_any name body hb A c l wi (Kd.C_below HC.out hb2) ⟨hl8, by omega, fun s hs => by have := HD2.out s hs; omega, by omega⟩)
      go_wp2_with fail
      refine (HCT.out _ HX.out.bel).mono ?_
      rintro e w5 ⟨rfl, hb5⟩
      rw [HE.out]
      have HB5 := Aside0.mk (HX.out.bel.trans (hb5.mono HX.out.bel.size))
      clear hb5 HCT HE
      go_wp2_with fail
      refine (alive_any _).mono ?_
      rintro e w6 ⟨rfl, hb⟩
      have HB6 := Aside0.mk (HB5.out.trans (hb.mono HB5.out.size))
      clear hb
      go_wp2_with fail
      go_ret
      exact ⟨rfl, HB6.out⟩
theorem FnCommandName_row (name : ByteArray) (A : Option Addr) (c : Nat) (l : List ByteArray) (body : ByteArray) (hb : Bool) (w : World) (hlc : l.length ≤ c) (hC : Kd.C Kd.string w A l.length l) :
    Calls Try.prog 7 #[.agg #[.string name, .slice A l.length c, .string body, .bool hb]] w fun e w' => e = .returned (.bool true) ∧ Below w.heap.size w w' := FnCommandName_walk name body hb A c l w hC hlc
end Go.Proofs.Ytnbhledkdkchlaa
