/- Arguments that are slices of values and of texts, as data. -/
import Derived.Test.YtjnookhdiolhgaaOpen
import Derived.ChangeSlices
namespace Go.Proofs.Ytjnookhdiolhgaa
set_option linter.unusedVariables false
set_option linter.unusedSimpArgs false
open Go.RowKit Go.Proofs.YtjnookhdiolhgaaW.PrintWords
open Go.ChangeShapes Go.WideShapes Go.Deep
open PAll (info5 S26 k26 z26)

section
variable {H : Type} {enc : TypeId × Value → H} {w : World} {base : Nat} {spare : Nat → Bool} {held : Bool}

set_option maxRecDepth 100000 in
theorem open_strsArg {r : Reach} {b0 : Nat} {v : Value} {d : DataW H} {p : List MemPlace} (hv : Value.okWide Try.prog w r b0 23 v) (h : DataW.Trod enc Try.prog w base spare held 23 v d p) :
    ∃ (A : Option Addr) (c : Nat) (L : List ByteArray), v = .slice A L.length c ∧ L.length ≤ c ∧ Kd.C Kd.string w A L.length L := by
  obtain ⟨a, len, cap, rfl⟩ := okWide_slice Try.underlying23 hv
  obtain ⟨fuel, hf⟩ := h
  obtain ⟨A, c, L, he, hl, hC⟩ := open_strs_C hf
  have he' : [Value.slice a len cap] = [.slice A L.length c] := he
  simp only [List.cons.injEq, and_true] at he'
  exact ⟨A, c, L, he', hl, hC⟩

set_option maxRecDepth 100000 in
theorem open_vals_C {fuel : Nat} {cs : List Value} {x : DataW H × List MemPlace} (h : DataW.trod enc Try.prog w base spare held fuel 24 cs = some x) :
    ∃ (A : Option Addr) (c : Nat) (L : List S26), cs = [.slice A L.length c] ∧ wfAll L ∧ L.length ≤ c ∧ Kd.C k26 w A L.length L := by
  rcases DataW.trod_slice Try.underlying24 h with ⟨e6, _⟩ | ⟨a, len, cap, elems, rest, m, hm, e6, _, hb, hl, hmax, hlen, hel, _⟩
  · subst e6
    exact ⟨none, 0, [], rfl, trivial, Nat.le_refl _, ⟨rfl, by decide, fun h => absurd h (by decide)⟩⟩
  · subst e6
    have hall : ∀ j, j < len → ∃ (S : S26) (cs : List Value), k26.K w S cs ∧ wfV S ∧ cs.length = 7 ∧ ∀ t u, cs[t]? = some u → w.cell? (a.add (j * 7 + t)) = some u := by
      intro j hj
      have h1 := hel j hj
      rw [List.getElem?_eq_getElem (by omega)] at h1
      obtain ⟨cs', hc, ht⟩ := Option.bind_eq_some_iff.1 h1
      rw [cells26] at hc
      obtain ⟨S, hS, hw⟩ := open_val m _ _ ht
      obtain ⟨_, hcl, hat⟩ := World.cells?_some hc
      refine ⟨S, cs', hS, hw, hcl, fun t u hu => ?_⟩
      have htl : t < 7 := by have := (List.getElem?_eq_some_iff.1 hu).1; omega
      rw [← Go.Deep.add_add, hat t htl]
      exact hu
    haveI : Inhabited (S26 × List Value) := ⟨(z26, [])⟩
    obtain ⟨F, hF⟩ := choose_lt (α := S26 × List Value) (n := len) (p := fun j q => k26.K w q.1 q.2 ∧ wfV q.1 ∧ q.2.length = 7 ∧ ∀ t u, q.2[t]? = some u → w.cell? (a.add (j * 7 + t)) = some u)
      (fun j hj => by obtain ⟨S, cs, h⟩ := hall j hj; exact ⟨(S, cs), h⟩)
    have hlenk : ((List.range len).map fun j => (F j).1).length = len := by simp
    refine ⟨some a, cap, (List.range len).map fun j => (F j).1, by rw [hlenk], ?_, by omega, ⟨rfl, by rw [hlenk]; simp only [maxLen] at hmax; omega, fun _ => ⟨a, rfl, fun j p hj => ?_⟩⟩⟩
    · have hw : ∀ l : List S26, (∀ S ∈ l, wfV S) → wfAll l := by
        intro l
        induction l with
        | nil => intro _; trivial
        | cons y r ihr => intro h; exact ⟨h y (by simp), ihr (fun S hS => h S (by simp [hS]))⟩
      refine hw _ (fun S hS => ?_)
      obtain ⟨j, hj, rfl⟩ := List.mem_map.1 hS
      exact (hF j (List.mem_range.1 hj)).2.1
    · obtain ⟨hjl, hjp⟩ := List.getElem?_eq_some_iff.1 hj
      rw [hlenk] at hjl
      have hp : (F j).1 = p := by simpa using hjp
      obtain ⟨h1, h2, h3, h4⟩ := hF j hjl
      exact ⟨(F j).2, h3, hp ▸ h1, h4⟩

set_option maxRecDepth 100000 in
theorem open_valsArg {r : Reach} {b0 : Nat} {v : Value} {d : DataW H} {p : List MemPlace} (hv : Value.okWide Try.prog w r b0 24 v) (h : DataW.Trod enc Try.prog w base spare held 24 v d p) :
    ∃ (A : Option Addr) (c : Nat) (L : List S26), v = .slice A L.length c ∧ wfAll L ∧ L.length ≤ c ∧ Kd.C k26 w A L.length L := by
  obtain ⟨a, len, cap, rfl⟩ := okWide_slice Try.underlying24 hv
  obtain ⟨fuel, hf⟩ := h
  obtain ⟨A, c, L, he, hw, hl, hC⟩ := open_vals_C hf
  have he' : [Value.slice a len cap] = [.slice A L.length c] := he
  simp only [List.cons.injEq, and_true] at he'
  exact ⟨A, c, L, he', hw, hl, hC⟩

set_option maxRecDepth 100000 in
theorem open_intsArg {t e : TypeId} {k : IntKind} (ht : Try.prog.underlying t = some (.slice e)) (he : Try.prog.underlying e = some (.int k)) (hce : Try.prog.cellsOf e = 1) {r : Reach} {b0 : Nat} {v : Value} {d : DataW H} {p : List MemPlace}
    (hv : Value.okWide Try.prog w r b0 t v) (h : DataW.Trod enc Try.prog w base spare held t v d p) :
    ∃ (A : Option Addr) (c : Nat) (L : List Int), v = .slice A L.length c ∧ (∀ n ∈ L, (Lit.int k n).wf = true) ∧ L.length ≤ c ∧ (Kd.int k).C w A L.length L := by
  obtain ⟨a, len, cap, rfl⟩ := okWide_slice ht hv
  obtain ⟨fuel, hf⟩ := h
  rcases open_ints ht he hce hf with ⟨h0, _⟩ | ⟨a', len', cap', zs, h0, _, hl, hm, hz, _, hcell, hwf⟩
  · have h1 : [Value.slice a len cap] = [.slice none 0 0] := h0
    have h0' : Value.slice a len cap = .slice none 0 0 := by simpa using h1
    exact ⟨none, 0, [], h0', by simp, Nat.le_refl _, ⟨rfl, by decide, fun h => absurd h (by decide)⟩⟩
  · have h2 : [Value.slice a len cap] = [.slice (some a') len' cap'] := h0
    have h0' : Value.slice a len cap = .slice (some a') len' cap' := by simpa using h2
    have hzl : len' ≤ zs.length := by rw [hz]; split <;> omega
    have hlen : (zs.take len').length = len' := by rw [List.length_take]; omega
    refine ⟨some a', cap', zs.take len', by rw [hlen]; exact h0', fun n hn => hwf n (List.mem_of_mem_take hn), by omega, ⟨rfl, by rw [hlen]; simp only [maxLen] at hm; omega, fun _ => ⟨a', rfl, fun j p hj => ⟨[.int k p], rfl, rfl, fun i u hu => ?_⟩⟩⟩⟩
    obtain ⟨hjl, hjp⟩ := List.getElem?_eq_some_iff.1 hj
    rw [hlen] at hjl
    cases i with
    | zero =>
      have : Value.int k p = u := by simpa using hu
      subst this
      have h1 := hcell j (by omega)
      rw [List.getD_eq_getElem?_getD, List.getElem?_eq_getElem (by omega)] at h1
      rw [List.getElem_take] at hjp
      simp only [Option.getD_some, hjp] at h1
      simpa [Kd.int, Kd.scalar] using h1
    | succ i => simp at hu
end
end Go.Proofs.Ytjnookhdiolhgaa
