/- FnCommandMade: whatever the input, the law answers true, and the input reads as it did; the card. (seat r2.D) -/
import Derived.Test.YtnbhledkdkchlaaDoorRows
import Derived.Test.YtnbhledkdkchlaaDoorCards
import Derived.Test.YtnbhledkdkchlaaDoorTie
import Derived.Test.YtnbhledkdkchlaaDoorGl
import Derived.Test.YtnbhledkdkchlaaDoorOpenT
import Derived.WalkKit
import Derived.ProofKit
import Derived.OpenShut
import Derived.ShutString
import Derived.ChangeOld
import Derived.ChangeVars
import Derived.Below
import Derived.SizedLaws
import Derived.JoinedOf
import Derived.RowKit
import Derived.RowKitTokens
import Derived.LaidLaws
import Derived.LaidHandle
import Derived.MakeChecks
import Derived.Stop.LaidErr
import Derived.Lib.LaidTab
import Derived.SevenTiedAt
namespace Go.Proofs.YtnbhledkdkchlaaDoor.fnCommandMade
open Go.ChangeShapes Go.WideShapes Go.ChangeAt Go.RowKit
open Go.ChangeMaps (open_string shut_string)
set_option linter.unusedVariables false
theorem own : ownKnob Tryd.prog.godebug = none := by kernel_rfl
theorem laidOut : laidOutB Tryd.prog = true := by kernel_rfl
theorem gP : Tryd.prog.globalNamed "internal/strconv.uint64pow10" = some 1 := by kernel_rfl
theorem gPType : (Tryd.prog.globals[1]?).map (·.type) = some 113 := by kernel_rfl
theorem cells_P : Tryd.prog.cellsOf 113 = 20 := by kernel_rfl
theorem cells_e : Tryd.prog.cellsOf 40 = 1 := by kernel_rfl
theorem under_P : Tryd.prog.underlying 113 = some (.array 20 40) := by kernel_rfl
theorem under_e : Tryd.prog.underlying 40 = some (.int .u64) := by kernel_rfl

/-- The listed tables' cells. -/
def T32 : List Int := [0, 1, 28, 2, 29, 14, 24, 3, 30, 22, 20, 15, 25, 17, 4, 8, 31, 27, 13, 23, 21, 19, 16, 7, 26, 12, 18, 6, 11, 5, 10, 9]
def T64 : List Int := [0, 1, 56, 2, 57, 49, 28, 3, 61, 58, 42, 50, 38, 29, 17, 4, 62, 47, 59, 36, 45, 43, 51, 22, 53, 39, 33, 30, 24, 18, 12, 5, 63, 55, 48, 27, 60, 41, 37, 16, 46, 35, 44, 21, 52, 32, 23, 11, 54, 26, 40, 15, 34, 20, 31, 10, 25, 14, 19, 9, 13, 8, 7, 6]
/-- A world that meets the condition: the settled one, the three tables laid. -/
noncomputable def laidWorld (os : Os) : World :=
  let w0 := World.holding Tryd.prog os ⟨#[], #[], []⟩
  { w0 with heap := ((w0.heap.modify 1 fun
      | .cells _ t frozen => .cells (Lib.pow10Tab.map fun z => Value.int .u64 z).toArray t frozen
      | o => o).modify 3 fun
      | .cells _ t frozen => .cells (T32.map fun z => Value.int .u8 z).toArray t frozen
      | o => o).modify 4 fun
      | .cells _ t frozen => .cells (T64.map fun z => Value.int .u8 z).toArray t frozen
      | o => o }
theorem laid_met (os : Os) (args : Array Value) : laidMetH Tryd.prog Rows.fnCommandMadeRow.laid ((laidWorld os).forCall (fun _ _ => 0) ⟨#[], args, []⟩).memory := by
  rw [MakeChecks.laidMetH_plain _ _ _ (by kernel_rfl)]
  exact laidMet_of_run' 8 (by kernel_rfl) (by kernel_rfl)
theorem var_below {w w' : World} {n : String} {g B : Nat} {cs : Array Value} (h : w.var? Tryd.prog n = some cs) (hg : Tryd.prog.globalNamed n = some g) (hb : Below B w w') (hlt : g < B) : w'.var? Tryd.prog n = some cs := by
  unfold World.var? at h ⊢
  rw [hg] at h ⊢
  simp only [Option.bind_some] at h ⊢
  rw [hb.block g hlt]
  exact h
theorem var_lt {w : World} {n : String} {g : Nat} {cs : Array Value} (h : w.var? Tryd.prog n = some cs) (hg : Tryd.prog.globalNamed n = some g) : g < w.heap.size := by
  apply Classical.byContradiction
  intro hn
  unfold World.var? at h
  rw [hg] at h
  simp only [Option.bind_some] at h
  rw [Array.getElem?_eq_none (by omega)] at h
  simp at h
theorem tb_of_laid {W : World} (h : laidMetH Tryd.prog Rows.fnCommandMadeRow.laid W) : Tb W := by
  rw [MakeChecks.laidMetH_plain _ _ _ (by kernel_rfl)] at h
  have h2 : laidMet Tryd.prog [("internal/strconv.uint64pow10", Lib.tabData .u64 Lib.pow10Tab)] W := laidMet.tail (laidMet.tail h)
  have h3 := Lib.tabIs_of_head gP gPType under_P under_e cells_e cells_P h2
  intro wi hb
  exact var_below h3 gP hb (var_lt h3 gP)
set_option maxRecDepth 100000 in
theorem lifted (os : Os) (started : os.Started) (H : Type) (enc : TypeId × Value → H) :
    ReturnsInHanded {} Tryd.checked os 3 .any (fun w args => (Rows.fnCommandMadeSpec.pre enc Tryd.prog Tryd.f3 [] false w args ∧ laidMetH Tryd.prog Rows.fnCommandMadeRow.laid w) ∧ sizedMet enc Tryd.prog Tryd.f3 (OpenSpec.ofChange Rows.fnCommandMadeSpec) false w args)
      (Rows.fnCommandMadeSpec.post enc Tryd.prog Tryd.f3 false true false false) := by
  refine returnsInHanded_of_change_and (C := Tryd.checked) (X := fun w _ => laidMetH Tryd.prog Rows.fnCommandMadeRow.laid w) (fun _ _ _ hh h => h.of_heap hh) own started (by kernel_rfl) Tryd.func3
    (ChangeSpec.witness_at (enc := enc) (C := Tryd.checked) (os := os) (X := fun w _ => laidMetH Tryd.prog Rows.fnCommandMadeRow.laid w) false (laidWorld os) #[.int .u8 0, .slice none 0 0, .slice none 0 0, .slice none 0 0] 16 rfl (by kernel_rfl) (by kernel_rfl) (by kernel_rfl) (by kernel_rfl) (by kernel_rfl) (laid_met os _)) ?_
  intro W base args ds gs before hval0 hW hcnd hsz0 hL _
  have hval : ∀ (j : Nat) t v, Tryd.f3.params[j]? = some t → args[j]? = some v → Value.okWide Tryd.prog W .any base t v := hval0
  have hW' := hW
  obtain ⟨p, q, hA0, hV, rfl, hfz, hnd⟩ := hW
  have hA : DataW.TrodAll enc Tryd.prog W 0 (fun _ => true) true Tryd.f3.params.toList args.toList ds p := hA0
  rw [Tryd.params3] at hA hval
  obtain ⟨v0, vs0, d0, ds0, p0, q0, hargs, rfl, rfl, h0, r0⟩ := trodAll_cons hA
  obtain ⟨v1, vs1, d1, ds1, p1, q1, rfl, rfl, rfl, h1, r1⟩ := trodAll_cons r0
  obtain ⟨v2, vs2, d2, ds2, p2, q2, rfl, rfl, rfl, h2, r2⟩ := trodAll_cons r1
  obtain ⟨v3, vs3, d3, ds3, p3, q3, rfl, rfl, rfl, h3, r3⟩ := trodAll_cons r2
  obtain ⟨rfl, rfl, rfl⟩ := trodAll_nil r3
  obtain rfl : args = #[v0, v1, v2, v3] := by cases args; simp_all
  obtain ⟨rfl, rfl⟩ := trodVars_none hV
  obtain ⟨a0, rfl, rfl, rfl, w0⟩ := open_int Tryd.underlying5 (hval 0 5 v0 rfl rfl) h0
  have k1 := h1
  have lt1 : ∀ x ∈ p1, x.block < W.heap.size := by obtain ⟨m, hm⟩ := k1; exact DataW.trod_lt m _ _ _ hm
  obtain ⟨A1, c1, L1, rfl, l1, q1⟩ := open_strsArg (hval 1 22 v1 rfl rfl) h1
  have k2 := h2
  have lt2 : ∀ x ∈ p2, x.block < W.heap.size := by obtain ⟨m, hm⟩ := k2; exact DataW.trod_lt m _ _ _ hm
  obtain ⟨A2, c2, L2, rfl, wf2, l2, q2⟩ := open_intsArg Tryd.underlying23 Tryd.underlying2 (by kernel_rfl) (hval 2 23 v2 rfl rfl) h2
  have k3 := h3
  have lt3 : ∀ x ∈ p3, x.block < W.heap.size := by obtain ⟨m, hm⟩ := k3; exact DataW.trod_lt m _ _ _ hm
  obtain ⟨A3, c3, L3, rfl, l3, q3⟩ := open_strsArg (hval 3 22 v3 rfl rfl) h3
  have htb := tb_of_laid hL
  clear hA0 hval0 hsz0 hL
  refine (FnCommandMade_row a0 A1 c1 L1 A2 c2 L2 A3 c3 L3 W w0 l1 q1 wf2 l2 q2 l3 q3 htb).mono fun e W' ⟨he, bel⟩ => ?_
  subst he
  exact ⟨_, rfl, _, _, _, [], _, [], hW', trodAll_mk1 (shut_bool Tryd.underlying4 _), (trodAll_cons_mk (shut_int Tryd.underlying5 w0) (trodAll_cons_mk (Below.trod laidOut (by kernel_rfl) (of_decide_eq_true (by kernel_rfl)) k1 bel lt1) (trodAll_cons_mk (Below.trod laidOut (by kernel_rfl) (of_decide_eq_true (by kernel_rfl)) k2 bel lt2) (trodAll_cons_mk (Below.trod laidOut (by kernel_rfl) (of_decide_eq_true (by kernel_rfl)) k3 bel lt3) trodAll_mk0)))), rfl, bel.frame _, fun h => by cases h⟩
theorem over : Rows.fnCommandMadeRow.holds Tryd.pinned (OpenSpec.ofChange Rows.fnCommandMadeSpec) :=
  OpenClaim.holds_of_wide 3 Tryd.f3 rfl rfl rfl rfl rfl rfl rfl ⟨rfl, rfl, rfl, rfl, rfl⟩ rfl rfl rfl rfl rfl (by kernel_rfl) Tryd.func3 (by kernel_rfl)
    (of_decide_eq_true (by kernel_rfl)) (by unfold Func.isWrapper; first | (rw [if_pos (by decide +kernel)]; kernel_rfl) | (rw [if_neg (by decide +kernel)]; exact ⟨rfl, rfl⟩))
    (fun os started H enc _ => lifted os started H enc)
theorem proved : Rows.FnCommandMadeSaid := over
theorem card : Rows.FnCommandMadeCardSaid :=
  Claim7.holds_tied_plain_at .later [] [.data, .data, .data] true (true, "de027350b531abc94eefbacd669e78d804f750aa692d1224c38bd15289e7978d") false
    proved (fun _ h => by cases h) (by kernel_rfl) (fun _ h => by cases h) fnCommandMade_row_tie rfl ⟨rfl, rfl⟩ (by kernel_rfl) rfl
    (fun f fn hf hfn => by
      obtain rfl : f = 3 := Option.some.inj ((show Tryd.prog.funcNamed "pub-telautograph/laws.FnCommandMade" = some 3 by kernel_rfl).symm.trans hf) |>.symm
      obtain rfl : fn = Tryd.f3 := (Option.some.inj (Tryd.func3.symm.trans hfn)).symm
      exact ⟨by kernel_rfl, fun j t ht => by
        rw [Tryd.params3] at ht
        have h4 : t = 5 ∨ t = 22 ∨ t = 23 := by
          rcases j with _ | _ | _ | _ | j
          · exact .inl (by simpa using ht.symm)
          · exact .inr (.inl (by simpa using ht.symm))
          · exact .inr (.inr (by simpa using ht.symm))
          · exact .inr (.inl (by simpa using ht.symm))
          · simp at ht
        rcases h4 with rfl | rfl | rfl
        · exact (show Tryd.prog.wantsStandIn 5 = false by kernel_rfl)
        · exact (show Tryd.prog.wantsStandIn 22 = false by kernel_rfl)
        · exact (show Tryd.prog.wantsStandIn 23 = false by kernel_rfl)⟩)
    (by kernel_rfl)
#print axioms card
end Go.Proofs.YtnbhledkdkchlaaDoor.fnCommandMade
namespace Go.Proofs.YtnbhledkdkchlaaDoor
/-- The card, under a short name, for the claim. -/
theorem fnCommandMade_holds : Rows.FnCommandMadeCardSaid := fnCommandMade.card
end Go.Proofs.YtnbhledkdkchlaaDoor
