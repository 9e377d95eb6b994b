/- Values that came in, as data: every argument that can be read as a Val is one, with its rows in memory. -/
import Derived.Test.YtjnookhdiolhgaaEnc
import Derived.ProofKit
import Derived.Deep.Slices
import Derived.Deep.Fields
import Derived.ChangeSame
import Derived.SliceStrings
import Derived.OpenShut
namespace Go.Proofs.Ytjnookhdiolhgaa
open Go.RowKit Go.Proofs.YtjnookhdiolhgaaW.PrintWords
open Go.ChangeShapes Go.WideShapes Go.Deep
open PAll (info5 S26 k26 z26)

section
variable {H : Type} {enc : TypeId × Value → H} {w : World} {base : Nat} {spare : Nat → Bool} {held : Bool}

theorem cells26 : Try.prog.cellsOf 26 = 7 := by kernel_rfl
theorem cells2 : Try.prog.cellsOf 2 = 1 := by kernel_rfl
theorem cells3 : Try.prog.cellsOf 3 = 1 := by kernel_rfl
theorem cells4 : Try.prog.cellsOf 4 = 1 := by kernel_rfl
theorem cells22 : Try.prog.cellsOf 22 = 1 := by kernel_rfl
theorem cells23 : Try.prog.cellsOf 23 = 1 := by kernel_rfl
theorem cells24 : Try.prog.cellsOf 24 = 1 := by kernel_rfl
theorem cells9 : Try.prog.cellsOf 9 = 1 := by kernel_rfl

theorem open_strs_C {fuel : Nat} {cs : List Value} {x : DataW H × List MemPlace} (h : DataW.trod enc Try.prog w base spare held fuel 23 cs = some x) :
    ∃ (A : Option Addr) (c : Nat) (l : List ByteArray), cs = [.slice A l.length c] ∧ l.length ≤ c ∧ Kd.C Kd.string w A l.length l := by
  rcases open_strings Try.underlying23 Try.underlying9 cells9 h with ⟨rfl, _⟩ | ⟨a, len, cap, ss, rfl, _, hl, hm, hz, _, hcell, _⟩
  · exact ⟨none, 0, [], rfl, Nat.le_refl _, ⟨rfl, by decide, fun h => absurd h (by decide)⟩⟩
  · have hzl : len ≤ ss.length := by rw [hz]; split <;> omega
    have hlen : (ss.take len).length = len := by rw [List.length_take]; omega
    refine ⟨some a, cap, ss.take len, by rw [hlen], by omega, ⟨rfl, by rw [hlen]; simp only [maxLen] at hm; omega, fun _ => ⟨a, rfl, fun j p hj => ⟨[.string p], rfl, rfl, fun i u hu => ?_⟩⟩⟩⟩
    obtain ⟨hjl, hjp⟩ := List.getElem?_eq_some_iff.1 hj
    rw [hlen] at hjl
    cases i with
    | zero =>
      have : Value.string p = u := by simpa using hu
      subst this
      have h1 := hcell j (by omega)
      rw [List.getD_eq_getElem?_getD, List.getElem?_eq_getElem (by omega)] at h1
      rw [List.getElem_take] at hjp
      simp only [Option.getD_some, hjp] at h1
      simpa [Kd.string, Kd.scalar] using h1
    | succ i => simp at hu

set_option maxRecDepth 100000 in
theorem open_val (fuel : Nat) : ∀ (cs : List Value) (x : DataW H × List MemPlace), DataW.trod enc Try.prog w base spare held fuel 26 cs = some x → ∃ S : S26, k26.K w S cs ∧ wfV S := by
  induction fuel using Nat.strongRecOn with
  | _ fuel ih =>
    intro cs x h
    obtain ⟨xs, n, hfu, _, hlen, hxl, hf⟩ := DataW.trod_struct Try.underlying26 h
    rw [cells26] at hlen
    match cs, hlen with
    | [c0, c1, c2, c3, c4, c5, c6], _ =>
      match xs, hxl with
      | [y0, y1, y2, y3, y4, y5, y6], _ =>
        have g0 : DataW.trod enc Try.prog w base spare held n 3 [c0] = some y0 := by simpa [cells3] using hf 0 _ rfl
        have g1 : DataW.trod enc Try.prog w base spare held n 4 [c1] = some y1 := by simpa [cells4] using hf 1 _ rfl
        have g2 : DataW.trod enc Try.prog w base spare held n 2 [c2] = some y2 := by simpa [cells2] using hf 2 _ rfl
        have g3 : DataW.trod enc Try.prog w base spare held n 22 [c3] = some y3 := by simpa [cells22] using hf 3 _ rfl
        have g4 : DataW.trod enc Try.prog w base spare held n 9 [c4] = some y4 := by simpa [cells9] using hf 4 _ rfl
        have g5 : DataW.trod enc Try.prog w base spare held n 23 [c5] = some y5 := by simpa [cells23] using hf 5 _ rfl
        have g6 : DataW.trod enc Try.prog w base spare held n 24 [c6] = some y6 := by simpa [cells24] using hf 6 _ rfl
        clear hf
        obtain ⟨k, e0, _, _⟩ := DataW.trod_int Try.underlying3 g0
        obtain ⟨b, e1, _⟩ := DataW.trod_bool Try.underlying4 g1
        obtain ⟨i, e2, _, wi⟩ := DataW.trod_int Try.underlying2 g2
        obtain ⟨f, e3, _, wf⟩ := DataW.trod_int Try.underlying22 g3
        obtain ⟨s, e4, _, _⟩ := DataW.trod_string Try.underlying9 g4
        obtain ⟨A5, d5, keys, e5, l5, q5⟩ := open_strs_C g5
        simp only [List.cons.injEq, and_true] at e0 e1 e2 e3 e4 e5
        subst e0 e1 e2 e3 e4 e5
        have wi' : -9223372036854775808 ≤ i ∧ i < 9223372036854775808 := by have := Go.bounds_i64 wi; omega
        have wf' : 0 ≤ f ∧ f < 18446744073709551616 := by have := Go.bounds_u64 wf; omega
        have hk : ∃ (A6 : Option Addr) (d6 : Nat) (kids : List S26), c6 = .slice A6 kids.length d6 ∧ kids.length ≤ d6 ∧ Kd.C k26 w A6 kids.length kids ∧ wfAll kids := by
          rcases DataW.trod_slice Try.underlying24 g6 with ⟨e6, _⟩ | ⟨a, len, cap, elems, rest, m, hm, e6, _, hb, hl, hmax, hlen, hel, _⟩
          · simp only [List.cons.injEq, and_true] at e6
            subst e6
            exact ⟨none, 0, [], rfl, Nat.le_refl _, ⟨rfl, by decide, fun h => absurd h (by decide)⟩, trivial⟩
          · simp only [List.cons.injEq, and_true] at e6
            subst e6
            have hall : ∀ j, j < len → ∃ (S : S26) (cs : List Value), k26.K w S cs ∧ wfV S ∧ cs.length = 7 ∧ ∀ t u, cs[t]? = some u → w.cell? (a.add (j * 7 + t)) = some u := by
              intro j hj
              have h1 := hel j hj
              rw [List.getElem?_eq_getElem (by omega)] at h1
              obtain ⟨cs', hc, ht⟩ := Option.bind_eq_some_iff.1 h1
              rw [cells26] at hc
              obtain ⟨S, hS, hw⟩ := ih m (by omega) _ _ ht
              obtain ⟨_, hcl, hat⟩ := World.cells?_some hc
              refine ⟨S, cs', hS, hw, hcl, fun t u hu => ?_⟩
              have htl : t < 7 := by have := (List.getElem?_eq_some_iff.1 hu).1; omega
              rw [← Go.Deep.add_add, hat t htl]
              exact hu
            haveI : Inhabited (S26 × List Value) := ⟨(z26, [])⟩
            obtain ⟨F, hF⟩ := choose_lt (α := S26 × List Value) (n := len) (p := fun j q => k26.K w q.1 q.2 ∧ wfV q.1 ∧ q.2.length = 7 ∧ ∀ t u, q.2[t]? = some u → w.cell? (a.add (j * 7 + t)) = some u)
              (fun j hj => by obtain ⟨S, cs, h⟩ := hall j hj; exact ⟨(S, cs), h⟩)
            have hlenk : ((List.range len).map fun j => (F j).1).length = len := by simp
            refine ⟨some a, cap, (List.range len).map fun j => (F j).1, by rw [hlenk], by omega, ⟨rfl, by rw [hlenk]; simp only [maxLen] at hmax; omega, fun _ => ⟨a, rfl, fun j p hj => ?_⟩⟩, ?_⟩
            · obtain ⟨hjl, hjp⟩ := List.getElem?_eq_some_iff.1 hj
              rw [hlenk] at hjl
              have hp : (F j).1 = p := by simpa using hjp
              obtain ⟨h1, h2, h3, h4⟩ := hF j hjl
              exact ⟨(F j).2, h3, hp ▸ h1, h4⟩
            · have hw : ∀ l : List S26, (∀ S ∈ l, wfV S) → wfAll l := by
                intro l
                induction l with
                | nil => intro _; trivial
                | cons y r ihr => intro h; exact ⟨h y (by simp), ihr (fun S hS => h S (by simp [hS]))⟩
              refine hw _ (fun S hS => ?_)
              obtain ⟨j, hj, rfl⟩ := List.mem_map.1 hS
              exact (hF j (List.mem_range.1 hj)).2.1
        obtain ⟨A6, d6, kids, rfl, l6, q6, wk⟩ := hk
        exact ⟨⟨k, b, i, f, s, keys, kids⟩, PAll.k26_mk w ⟨k, b, i, f, s, keys, kids⟩ l5 q5 l6 q6, ⟨⟨wi'.1, wi'.2, wf'.1, wf'.2⟩, wk⟩⟩

set_option maxRecDepth 100000 in
/-- An argument that is a Val. -/
theorem open_valArg {r : Reach} {b0 : Nat} {v : Value} {d : DataW H} {p : List MemPlace} (hv : Value.okWide Try.prog w r b0 26 v) (h : DataW.Trod enc Try.prog w base spare held 26 v d p) :
    ∃ (S : S26) (A5 : Option Addr) (c5 : Nat) (A6 : Option Addr) (c6 : Nat), v = .agg #[.int .i64 S.f0, .bool S.f1, .int .i64 S.f2, .int .u64 S.f3, .string S.f4, .slice A5 S.f5.length c5, .slice A6 S.f6.length c6] ∧ wfV S ∧
      S.f5.length ≤ c5 ∧ S.f6.length ≤ c6 ∧ Kd.C Kd.string w A5 S.f5.length S.f5 ∧ Kd.C k26 w A6 S.f6.length S.f6 := by
  obtain ⟨cs, rfl, hsz⟩ := okWide_struct Try.underlying26 hv
  obtain ⟨fuel, hf⟩ := h
  obtain ⟨S, hS, hw⟩ := open_val fuel _ _ hf
  obtain ⟨A5, c5, A6, c6, he, l5, q5, l6, q6⟩ := PAll.k26_open hS
  refine ⟨S, A5, c5, A6, c6, ?_, hw, l5, l6, q5, q6⟩
  have : cs.toList = _ := he
  obtain ⟨l⟩ := cs
  simp only at this
  rw [this]
end
end Go.Proofs.Ytjnookhdiolhgaa
