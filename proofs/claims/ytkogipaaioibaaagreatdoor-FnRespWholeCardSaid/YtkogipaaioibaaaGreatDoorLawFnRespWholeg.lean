/- FnRespWhole: whatever the input, the law answers true, and the input reads as it did; the card. (seat r3.ZD; printed by gen_law3.py) -/
import Derived.Test.YtkogipaaioibaaaGreatDoorRows
import Derived.Test.YtkogipaaioibaaaGreatDoorCards
import Derived.Test.YtkogipaaioibaaaGreatDoorTie
import Derived.Test.YtkogipaaioibaaaGreatDoorWq
import Derived.Test.YtkogipaaioibaaaGreatDoorLw
import Derived.WalkKit
import Derived.ProofKit
import Derived.OpenShut
import Derived.ShutString
import Derived.ChangeOld
import Derived.ChangeVars
import Derived.Below
import Derived.SizedLaws
import Derived.JoinedOf
import Derived.RowKit
import Derived.RowKitTokens
import Derived.LaidLaws
import Derived.LaidHandle
import Derived.MakeChecks
import Derived.Stop.LaidErr
import Derived.Lib.LaidTab
import Derived.SevenTiedAt
namespace Go.Proofs.YtkogipaaioibaaaGreatDoor.fnRespWhole
open Go.ChangeShapes Go.WideShapes Go.ChangeAt Go.RowKit
open Go.ChangeMaps (open_string shut_string)
set_option linter.unusedVariables false
theorem own : ownKnob Tryz.prog.godebug = none := by kernel_rfl
theorem laidOut : laidOutB Tryz.prog = true := by kernel_rfl
set_option maxRecDepth 100000 in
theorem lifted (os : Os) (started : os.Started) (H : Type) (enc : TypeId × Value → H) :
    ReturnsInHanded {} Tryz.checked os 3 .any (fun w args => (Rows.fnRespWholeSpec.pre enc Tryz.prog Tryz.f3 [] false w args ∧ laidMetH Tryz.prog Rows.fnRespWholeRow.laid w) ∧ sizedMet enc Tryz.prog Tryz.f3 (OpenSpec.ofChange Rows.fnRespWholeSpec) false w args)
      (Rows.fnRespWholeSpec.post enc Tryz.prog Tryz.f3 false true false false) := by
  refine returnsInHanded_of_change_and (C := Tryz.checked) (X := fun w _ => laidMetH Tryz.prog Rows.fnRespWholeRow.laid w) (fun _ _ _ hh h => h.of_heap hh) own started (by kernel_rfl) Tryz.func3
    (witness_laid (enc := enc) (X := fun w _ => laidMetH Tryz.prog Rows.fnRespWholeRow.laid w) os #[.agg #[.int .i64 0, .int .i64 0, .int .u64 0, .string ByteArray.empty, .slice none 0 0], .string ByteArray.empty] (by kernel_rfl) (by kernel_rfl) (by kernel_rfl) (laid_met os _)) ?_
  intro W base args ds gs before hval0 hW hcnd hsz0 hL _
  have hval : ∀ (j : Nat) t v, Tryz.f3.params[j]? = some t → args[j]? = some v → Value.okWide Tryz.prog W .any base t v := hval0
  have hW' := hW
  obtain ⟨p, q, hA0, hV, rfl, hfz, hnd⟩ := hW
  have hA : DataW.TrodAll enc Tryz.prog W 0 (fun _ => true) true Tryz.f3.params.toList args.toList ds p := hA0
  rw [Tryz.params3] at hA hval
  obtain ⟨v0, vs0, d0, ds0, p0, q0, hargs, rfl, rfl, h0, r0⟩ := trodAll_cons hA
  obtain ⟨v1, vs1, d1, ds1, p1, q1, rfl, rfl, rfl, h1, r1⟩ := trodAll_cons r0
  obtain ⟨rfl, rfl, rfl⟩ := trodAll_nil r1
  obtain rfl : args = #[v0, v1] := by cases args; simp_all
  obtain ⟨rfl, rfl⟩ := trodVars_none hV
  have k0 := h0
  have lt0 : ∀ x ∈ p0, x.block < W.heap.size := by obtain ⟨m, hm⟩ := k0; exact DataW.trod_lt m _ _ _ hm
  obtain ⟨n0, i0, f0, s0, K0, A0, c0, rfl, wf0, l0, g0⟩ := open_replyArg (hval 0 25 v0 rfl rfl) h0
  obtain ⟨a1, rfl, rfl, rfl, y1⟩ := open_string Tryz.underlying9 (hval 1 9 v1 rfl rfl) h1
  have htb := tb_of_laid hL
  clear hA0 hval0 hsz0 hL
  refine (FnRespWhole_walk n0 i0 f0 s0 K0 A0 c0 a1 W l0 g0 wf0 y1 htb).mono fun e W' ⟨he, bel⟩ => ?_
  subst he
  exact ⟨_, rfl, _, _, _, [], _, [], hW', trodAll_mk1 (shut_bool Tryz.underlying4 _), (trodAll_cons_mk (Below.trod laidOut (by kernel_rfl) (of_decide_eq_true (by kernel_rfl)) k0 bel lt0) (trodAll_cons_mk (shut_string Tryz.underlying9 y1) trodAll_mk0)), rfl, bel.frame _, fun h => by cases h⟩
theorem over : Rows.fnRespWholeRow.holds Tryz.pinned (OpenSpec.ofChange Rows.fnRespWholeSpec) :=
  OpenClaim.holds_of_wide 3 Tryz.f3 rfl rfl rfl rfl rfl rfl rfl ⟨rfl, rfl, rfl, rfl, rfl⟩ rfl rfl rfl rfl rfl (by kernel_rfl) Tryz.func3 (by kernel_rfl)
    (of_decide_eq_true (by kernel_rfl)) (by unfold Func.isWrapper; first | (rw [if_pos (by decide +kernel)]; kernel_rfl) | (rw [if_neg (by decide +kernel)]; exact ⟨rfl, rfl⟩))
    (fun os started H enc _ => lifted os started H enc)
theorem proved : Rows.FnRespWholeSaid := over
theorem card : Rows.FnRespWholeCardSaid :=
  Claim7.holds_tied_plain_at .later [] [.data, .data, .data, .data, .sentinel, .sentinel, .pinned, .pinned] true (true, "75cfbe53fa0d6c4b5b004d55a9f0c485fe8b5ef4d966937d01c673345fdeaa0b") true
    proved (fun _ h => by cases h) (by kernel_rfl) (fun _ h => by cases h) fnRespWhole_row_tie rfl ⟨rfl, rfl⟩ (by kernel_rfl) rfl
    (fun f fn hf hfn => by
      obtain rfl : f = 3 := Option.some.inj ((show Tryz.prog.funcNamed "pub-telautograph/laws.FnRespWhole" = some 3 by kernel_rfl).symm.trans hf) |>.symm
      obtain rfl : fn = Tryz.f3 := (Option.some.inj (Tryz.func3.symm.trans hfn)).symm
      exact ⟨by kernel_rfl, fun j t ht => by
        rw [Tryz.params3] at ht
        have h4 : t = 9 ∨ t = 25 := by
          rcases j with _ | _ | j
          · exact .inr (by simpa using ht.symm)
          · exact .inl (by simpa using ht.symm)
          · simp at ht
        rcases h4 with rfl | rfl
        · exact (show Tryz.prog.wantsStandIn 9 = false by kernel_rfl)
        · exact (show Tryz.prog.wantsStandIn 25 = false by kernel_rfl)⟩)
    (by kernel_rfl)
#print axioms card
end Go.Proofs.YtkogipaaioibaaaGreatDoor.fnRespWhole
namespace Go.Proofs.YtkogipaaioibaaaGreatDoor
/-- The card, under a short name, for the claim. -/
theorem fnRespWhole_holds : Rows.FnRespWholeCardSaid := fnRespWhole.card
end Go.Proofs.YtkogipaaioibaaaGreatDoor
