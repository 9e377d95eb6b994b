/- Arguments that are commands and messages, as data. (seat r2) -/
import Derived.Test.YtnbhledkdkchlaaOpenT
namespace Go.Proofs.Ytnbhledkdkchlaa
set_option linter.unusedVariables false
set_option linter.unusedSimpArgs false
open Go.RowKit Go.Proofs.YtnbhledkdkchlaaW.PrintWords
open Go.ChangeShapes Go.WideShapes Go.Deep

section
variable {H : Type} {enc : TypeId × Value → H} {w : World} {base : Nat} {spare : Nat → Bool} {held : Bool}

theorem cells35 : Try.prog.cellsOf 35 = 4 := by kernel_rfl
theorem cells28 : Try.prog.cellsOf 28 = 4 := by kernel_rfl
theorem cells33 : Try.prog.cellsOf 33 = 1 := by kernel_rfl
theorem cells2 : Try.prog.cellsOf 2 = 1 := by kernel_rfl
theorem cells3 : Try.prog.cellsOf 3 = 1 := by kernel_rfl
theorem cells4 : Try.prog.cellsOf 4 = 1 := by kernel_rfl

set_option maxRecDepth 100000 in
theorem open_cmdArg {r : Reach} {b0 : Nat} {v : Value} {d : DataW H} {p : List MemPlace} (hv : Value.okWide Try.prog w r b0 35 v) (h : DataW.Trod enc Try.prog w base spare held 35 v d p) :
    ∃ (name : ByteArray) (A : Option Addr) (c : Nat) (l : List ByteArray) (body : ByteArray) (hb : Bool), v = .agg #[.string name, .slice A l.length c, .string body, .bool hb] ∧ l.length ≤ c ∧ Kd.C Kd.string w A l.length l := by
  obtain ⟨cs, rfl, hsz⟩ := okWide_struct Try.underlying35 hv
  obtain ⟨fuel, hf⟩ := h
  obtain ⟨l⟩ := cs
  replace hf : DataW.trod enc Try.prog w base spare held fuel 35 l = some (d, p) := hf
  obtain ⟨xs, n, hfu, _, hlen, hxl, hf⟩ := DataW.trod_struct Try.underlying35 hf
  rw [cells35] at hlen
  match l, hlen with
  | [c0, c1, c2, c3], _ =>
    match xs, hxl with
    | [y0, y1, y2, y3], _ =>
      have g0 : DataW.trod enc Try.prog w base spare held n 9 [c0] = some y0 := by simpa [cells9] using hf 0 _ rfl
      have g1 : DataW.trod enc Try.prog w base spare held n 33 [c1] = some y1 := by simpa [cells33] using hf 1 _ rfl
      have g2 : DataW.trod enc Try.prog w base spare held n 9 [c2] = some y2 := by simpa [cells9] using hf 2 _ rfl
      have g3 : DataW.trod enc Try.prog w base spare held n 4 [c3] = some y3 := by simpa [cells4] using hf 3 _ rfl
      obtain ⟨s0, e0, _, _⟩ := DataW.trod_string Try.underlying9 g0
      obtain ⟨A5, d5, keys, e1, l5, q5⟩ := open_strs_C g1
      obtain ⟨s2, e2, _, _⟩ := DataW.trod_string Try.underlying9 g2
      obtain ⟨b, e3, _⟩ := DataW.trod_bool Try.underlying4 g3
      simp only [List.cons.injEq, and_true] at e0 e1 e2 e3
      subst e0 e1 e2 e3
      exact ⟨s0, A5, d5, keys, s2, b, rfl, l5, q5⟩
set_option maxRecDepth 100000 in
theorem open_msgArg {r : Reach} {b0 : Nat} {v : Value} {d : DataW H} {p : List MemPlace} (hv : Value.okWide Try.prog w r b0 28 v) (h : DataW.Trod enc Try.prog w base spare held 28 v d p) :
    ∃ (tm att : Int) (id body : ByteArray), v = .agg #[.int .i64 tm, .int .i64 att, .string id, .string body] ∧ (Lit.int .i64 tm).wf = true ∧ (Lit.int .i64 att).wf = true := by
  obtain ⟨cs, rfl, hsz⟩ := okWide_struct Try.underlying28 hv
  obtain ⟨fuel, hf⟩ := h
  obtain ⟨l⟩ := cs
  replace hf : DataW.trod enc Try.prog w base spare held fuel 28 l = some (d, p) := hf
  obtain ⟨xs, n, hfu, _, hlen, hxl, hf⟩ := DataW.trod_struct Try.underlying28 hf
  rw [cells28] at hlen
  match l, hlen with
  | [c0, c1, c2, c3], _ =>
    match xs, hxl with
    | [y0, y1, y2, y3], _ =>
      have g0 : DataW.trod enc Try.prog w base spare held n 2 [c0] = some y0 := by simpa [cells2] using hf 0 _ rfl
      have g1 : DataW.trod enc Try.prog w base spare held n 3 [c1] = some y1 := by simpa [cells3] using hf 1 _ rfl
      have g2 : DataW.trod enc Try.prog w base spare held n 9 [c2] = some y2 := by simpa [cells9] using hf 2 _ rfl
      have g3 : DataW.trod enc Try.prog w base spare held n 9 [c3] = some y3 := by simpa [cells9] using hf 3 _ rfl
      obtain ⟨i, e0, _, wi⟩ := DataW.trod_int Try.underlying2 g0
      obtain ⟨k, e1, _, wk⟩ := DataW.trod_int Try.underlying3 g1
      obtain ⟨s2, e2, _, _⟩ := DataW.trod_string Try.underlying9 g2
      obtain ⟨s3, e3, _, _⟩ := DataW.trod_string Try.underlying9 g3
      simp only [List.cons.injEq, and_true] at e0 e1 e2 e3
      subst e0 e1 e2 e3
      exact ⟨i, k, s2, s3, rfl, wi, wk⟩
end
end Go.Proofs.Ytnbhledkdkchlaa
