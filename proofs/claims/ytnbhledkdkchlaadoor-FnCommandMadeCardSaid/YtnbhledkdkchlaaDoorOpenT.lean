/- Arguments that are slices of numbers and of texts, as data. (seat r2) -/
import Derived.Test.YtnbhledkdkchlaaDoorAlive
import Derived.ProofKit
import Derived.Deep.Slices
import Derived.Deep.Fields
import Derived.ChangeSame
import Derived.SliceStrings
import Derived.ChangeSlices
import Derived.OpenShut
namespace Go.Proofs.YtnbhledkdkchlaaDoor
set_option linter.unusedVariables false
set_option linter.unusedSimpArgs false
open Go.RowKit Go.Proofs.YtnbhledkdkchlaaDoorW.PrintWords
open Go.ChangeShapes Go.WideShapes Go.Deep

section
variable {H : Type} {enc : TypeId × Value → H} {w : World} {base : Nat} {spare : Nat → Bool} {held : Bool}

theorem cells9 : Tryd.prog.cellsOf 9 = 1 := by kernel_rfl
theorem open_strs_C {fuel : Nat} {cs : List Value} {x : DataW H × List MemPlace} (h : DataW.trod enc Tryd.prog w base spare held fuel 22 cs = some x) :
    ∃ (A : Option Addr) (c : Nat) (l : List ByteArray), cs = [.slice A l.length c] ∧ l.length ≤ c ∧ Kd.C Kd.string w A l.length l := by
  rcases open_strings Tryd.underlying22 Tryd.underlying9 cells9 h with ⟨rfl, _⟩ | ⟨a, len, cap, ss, rfl, _, hl, hm, hz, _, hcell, _⟩
  · exact ⟨none, 0, [], rfl, Nat.le_refl _, ⟨rfl, by decide, fun h => absurd h (by decide)⟩⟩
  · have hzl : len ≤ ss.length := by rw [hz]; split <;> omega
    have hlen : (ss.take len).length = len := by rw [List.length_take]; omega
    refine ⟨some a, cap, ss.take len, by rw [hlen], by omega, ⟨rfl, by rw [hlen]; simp only [maxLen] at hm; omega, fun _ => ⟨a, rfl, fun j p hj => ⟨[.string p], rfl, rfl, fun i u hu => ?_⟩⟩⟩⟩
    obtain ⟨hjl, hjp⟩ := List.getElem?_eq_some_iff.1 hj
    rw [hlen] at hjl
    cases i with
    | zero =>
      have : Value.string p = u := by simpa using hu
      subst this
      have h1 := hcell j (by omega)
      rw [List.getD_eq_getElem?_getD, List.getElem?_eq_getElem (by omega)] at h1
      rw [List.getElem_take] at hjp
      simp only [Option.getD_some, hjp] at h1
      simpa [Kd.string, Kd.scalar] using h1
    | succ i => simp at hu

set_option maxRecDepth 100000 in
theorem open_strsArg {r : Reach} {b0 : Nat} {v : Value} {d : DataW H} {p : List MemPlace} (hv : Value.okWide Tryd.prog w r b0 22 v) (h : DataW.Trod enc Tryd.prog w base spare held 22 v d p) :
    ∃ (A : Option Addr) (c : Nat) (L : List ByteArray), v = .slice A L.length c ∧ L.length ≤ c ∧ Kd.C Kd.string w A L.length L := by
  obtain ⟨a, len, cap, rfl⟩ := okWide_slice Tryd.underlying22 hv
  obtain ⟨fuel, hf⟩ := h
  obtain ⟨A, c, L, he, hl, hC⟩ := open_strs_C hf
  have he' : [Value.slice a len cap] = [.slice A L.length c] := he
  simp only [List.cons.injEq, and_true] at he'
  exact ⟨A, c, L, he', hl, hC⟩

set_option maxRecDepth 100000 in
theorem open_intsArg {t e : TypeId} {k : IntKind} (ht : Tryd.prog.underlying t = some (.slice e)) (he : Tryd.prog.underlying e = some (.int k)) (hce : Tryd.prog.cellsOf e = 1) {r : Reach} {b0 : Nat} {v : Value} {d : DataW H} {p : List MemPlace}
    (hv : Value.okWide Tryd.prog w r b0 t v) (h : DataW.Trod enc Tryd.prog w base spare held t v d p) :
    ∃ (A : Option Addr) (c : Nat) (L : List Int), v = .slice A L.length c ∧ (∀ n ∈ L, (Lit.int k n).wf = true) ∧ L.length ≤ c ∧ (Kd.int k).C w A L.length L := by
  obtain ⟨a, len, cap, rfl⟩ := okWide_slice ht hv
  obtain ⟨fuel, hf⟩ := h
  rcases open_ints ht he hce hf with ⟨h0, _⟩ | ⟨a', len', cap', zs, h0, _, hl, hm, hz, _, hcell, hwf⟩
  · have h1 : [Value.slice a len cap] = [.slice none 0 0] := h0
    have h0' : Value.slice a len cap = .slice none 0 0 := by simpa using h1
    exact ⟨none, 0, [], h0', by simp, Nat.le_refl _, ⟨rfl, by decide, fun h => absurd h (by decide)⟩⟩
  · have h2 : [Value.slice a len cap] = [.slice (some a') len' cap'] := h0
    have h0' : Value.slice a len cap = .slice (some a') len' cap' := by simpa using h2
    have hzl : len' ≤ zs.length := by rw [hz]; split <;> omega
    have hlen : (zs.take len').length = len' := by rw [List.length_take]; omega
    refine ⟨some a', cap', zs.take len', by rw [hlen]; exact h0', fun n hn => hwf n (List.mem_of_mem_take hn), by omega, ⟨rfl, by rw [hlen]; simp only [maxLen] at hm; omega, fun _ => ⟨a', rfl, fun j p hj => ⟨[.int k p], rfl, rfl, fun i u hu => ?_⟩⟩⟩⟩
    obtain ⟨hjl, hjp⟩ := List.getElem?_eq_some_iff.1 hj
    rw [hlen] at hjl
    cases i with
    | zero =>
      have : Value.int k p = u := by simpa using hu
      subst this
      have h1 := hcell j (by omega)
      rw [List.getD_eq_getElem?_getD, List.getElem?_eq_getElem (by omega)] at h1
      rw [List.getElem_take] at hjp
      simp only [Option.getD_some, hjp] at h1
      simpa [Kd.int, Kd.scalar] using h1
    | succ i => simp at hu
end
end Go.Proofs.YtnbhledkdkchlaaDoor
