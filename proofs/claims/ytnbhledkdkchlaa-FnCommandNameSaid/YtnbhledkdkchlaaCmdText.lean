/- impl.CommandText. (seat r2) -/
import Derived.Test.YtnbhledkdkchlaaCmdWr
namespace Go.Proofs.Ytnbhledkdkchlaa
set_option linter.unusedVariables false
set_option linter.unusedSimpArgs false
open Go.RowKit Go.Proofs.YtnbhledkdkchlaaW.PrintWords
open PAll (info5)

/-- A command's sizes. -/
def CmdZ (name : ByteArray) (l : List ByteArray) (body : ByteArray) : Prop := l.length ≤ 8 ∧ name.size ≤ 1000000 ∧ (∀ s ∈ l, s.size ≤ 1000000) ∧ body.size ≤ 1000000
theorem cmdL_size (name : ByteArray) (l : List ByteArray) (body : ByteArray) (b : Bool) (h : CmdZ name l body) : (cmdL name l (if b then some body else none)).length ≤ 100000000 := by
  obtain ⟨h1, h2, h3, h4⟩ := h
  have := parL_size l h3
  have hn := bytesOf_length name
  have hb := bytesOf_length body
  unfold cmdL
  cases b
  · simp
    omega
  · simp [bigL_length]
    omega

set_option maxHeartbeats 2000000 in
set_option maxRecDepth 100000 in
theorem commandText_any (name body : ByteArray) (hb : Bool) (A : Option Addr) (c : Nat) (l : List ByteArray) (w : World) (hC : Kd.C Kd.string w A l.length l) (hz : CmdZ name l body) :
    Calls Try.prog 28 #[.agg #[.string name, .slice A l.length c, .string body, .bool hb]] w fun e w' =>
      e = .returned (.tuple #[.string (strOfNums (cmdL name l (if hb then some body else none))), .int .i64 0]) ∧ Below w.heap.size w w' := by
  have hsz := cmdL_size name l body hb hz
  obtain ⟨W, hW⟩ : ∃ W, W = (w.alloc (.cells #[.string name, .slice A l.length c, .string body, .bool hb] 35)).alloc (.cells #[.slice none 0 0] 80) := ⟨_, rfl⟩
  have hbW : Below w.heap.size w W := by rw [hW]; exact below_alloc (below_alloc (Below.refl _ _) _) _
  have hzW : W.heap.size = w.heap.size + 2 := by rw [hW]; simp
  have hbp : W.heap[w.heap.size + 1]? = some (.cells #[.slice none 0 0] 80 (0, 0)) := by
    have := heap_alloc_new (w.alloc (.cells #[.string name, .slice A l.length c, .string body, .bool hb] 35)) (.cells #[.slice none 0 0] 80)
    rw [hW]
    simpa using this
  have HM := Aside0.mk (made_any name body hb A c l W (Kd.C_below hC hbW) hz.1 hz.2.1 hz.2.2.1 hz.2.2.2)
  have HBW := Aside0.mk hbW
  have HBP := Aside0.mk hbp
  have HZW := Aside0.mk hzW
  have HZ := Aside0.mk hz
  have HWR := Aside0.mk (fun {B0 cp nb nc : Nat} {v1 vb : Value} {ps : List (Nat × Nat × Nat)} (w3 : World) (hc : CmdB w3 B0 cp nb nc v1 vb ps name l (if hb then some body else none)) (h : w3.heap[w.heap.size + 1]? = some (.cells #[.slice none 0 0] 80 (0, 0))) =>
    cmdWrite_any (bp := w.heap.size + 1) w3 hc h hz.1 hz.2.1 hz.2.2.1 (fun s hs => by cases hb <;> simp at hs; subst hs; exact hz.2.2.2))
  clear hz hbW hbp hC
  obtain ⟨T, hT⟩ : ∃ T, T = cmdL name l (if hb then some body else none) := ⟨_, rfl⟩
  rw [← hT] at hsz HWR ⊢
  obtain ⟨bo, hbo⟩ : ∃ bo, bo = (if hb then some body else none) := ⟨_, rfl⟩
  rw [← hbo] at HM HWR
  clear hT hbo
  go_enter Try.func28, Try.ntmps28
  subst hW
  go_wp2_with fail
  refine (HM.out).mono ?_
  rintro e w3 ⟨cp, nb, nc, v1, vb, ps, rfl, hcp, hlt, hbel, hcmd⟩
  have HP3 := Aside0.mk (blk_below HBP.out hbel)
  have HB3 := Aside0.mk (HBW.out.trans (hbel.mono HBW.out.size))
  have HS3 := Aside0.mk (show w.heap.size + 2 ≤ w3.heap.size by have := hbel.size; rw [HZW.out] at this; exact this)
  have HCM := Aside0.mk hcmd
  clear hcmd hbel HM HBW HBP HZW hlt hcp
  go_wp2_with fail
  refine (HWR.out _ HCM.out HP3.out).mono ?_
  rintro e w4 ⟨rfl, ⟨v, hv, hown⟩, hbk⟩
  have HB4 := Aside0.mk (show Below w.heap.size w w4 from ⟨hbk.os.trans HB3.out.os, hbk.tape.trans HB3.out.tape, hbk.output.trans HB3.out.output, Nat.le_trans HB3.out.size hbk.size, fun k hk => (hbk.block k (by have := HS3.out; omega) (by omega)).trans (HB3.out.block k hk)⟩)
  obtain ⟨A4, c4, rfl, hrd⟩ := own_reads hown
  have hc4 := blk_cell hv 0
  have hcv := string_of_reads (P := Try.prog) (w := w4) (c := c4) Try.underlying69 Try.underlying5 Try.underlying9 hrd
  clear hown hbk hv HWR HCM HP3 HS3 hrd HB3
  go_wp2_with fail
  go_ret2
  exact ⟨rfl, HB4.out⟩
end Go.Proofs.Ytnbhledkdkchlaa
