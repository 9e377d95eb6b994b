/- Lean functions and contracts for Go functions of this seat: each Go function comes to exactly what its Lean function answers (laid by the kit's print program over all laws of the seat at once). -/
import Derived.Test.YtkogipaaioibaaaGreatDoorProg
import Derived.Below
import Derived.Deep.Draws
import Derived.Deep.AppendLies
import Derived.Maps.AppendAt
import Derived.OwnWalk
import Derived.Laws.BytesArg
import Derived.Laws.MakeOwn
import Derived.Laws.OwnMore
import Derived.Deep.OwnRows
import Derived.Tactics
import Derived.Lib.ConvBytes
import Derived.Laws.Slices
import Derived.WalkKit
import Derived.KernelRfl
import Derived.RowKit3
import Derived.Deep.LoopGhost
import Derived.Deep.QuietTactic
import Derived.BigQuiet
import Derived.WideLaws
import Derived.Deep.DeepCutAuto
import Derived.Deep.CutBlock
import Derived.Deep.RegionHeld3
import Derived.Laws.Rows
import Derived.Lib.AppendStr
import Derived.ArgAppend
import Derived.Laws.IdiomCopy
import Derived.OrdersHeld
import Derived.Laws.BitsLemmas
import Derived.RowKit
import Derived.Test.YtkogipaaioibaaaGreatDoorWWords
import Derived.Test.YtkogipaaioibaaaGreatDoorWLast
import Derived.Test.YtkogipaaioibaaaGreatDoorWTab
import Derived.Test.YtkogipaaioibaaaGreatDoorWFour
import Derived.Test.YtkogipaaioibaaaGreatDoorWQPut
import Derived.Test.YtkogipaaioibaaaGreatDoorWApart
import Derived.Test.YtkogipaaioibaaaGreatDoorWArr
import Derived.Test.YtkogipaaioibaaaGreatDoorWZeros
import Derived.Test.YtkogipaaioibaaaGreatDoorWFoot
import Derived.Test.YtkogipaaioibaaaGreatDoorWKept
import Derived.Test.YtkogipaaioibaaaGreatDoorWShare
import Derived.Test.YtkogipaaioibaaaGreatDoorWN
import Derived.Test.YtkogipaaioibaaaGreatDoorWFootNe
import Derived.Test.YtkogipaaioibaaaGreatDoorWAt
import Derived.Test.YtkogipaaioibaaaGreatDoorWEqStruct
import Derived.Test.YtkogipaaioibaaaGreatDoorWRepsOne
import Derived.Test.YtkogipaaioibaaaGreatDoorWInv
import Derived.Test.YtkogipaaioibaaaGreatDoorWInvWords
import Derived.Test.YtkogipaaioibaaaGreatDoorWGuard
import Derived.Test.YtkogipaaioibaaaGreatDoorWNEv
import Derived.Test.YtkogipaaioibaaaGreatDoorWMore
namespace Go.Proofs.YtkogipaaioibaaaGreatDoor.PAll
open Go.RowKit Go.Proofs.YtkogipaaioibaaaGreatDoorW.PrintWords Go.Proofs.YtkogipaaioibaaaGreatDoorW.PrintLast Go.Proofs.YtkogipaaioibaaaGreatDoorW.PrintMore
attribute [local go_sem] max2_int min2_int max_two min_two max_three min_three max_four min_four   -- for this text's walks alone
set_option linter.unusedVariables false
set_option linter.unusedSimpArgs false



def errW : Option Int → Value
  | none => .nilIface
  | some c => .iface 141 (.int .i64 c)
theorem errW_none : errW none = .nilIface := rfl
theorem errW_some (c : Int) : errW (some c) = .iface 141 (.int .i64 c) := rfl

theorem info5 : (Tryz.prog.info? 5).map (fun i => (i.zero, i.size, i.bytes)) = some (some (.int .u8 0), 1, 1) := by kernel_rfl
-- the values' own types
/-! #### struct type 25, nested in itself -/
structure S25 where
  f0 : Int
  f1 : Int
  f2 : Int
  f3 : ByteArray
  f4 : (List S25)
def z25 : S25 := ⟨(0 : Int), (0 : Int), (0 : Int), (⟨#[]⟩ : ByteArray), ([] : List S25)⟩
def F25 (d : Kd S25) : Kd S25 := Kd.iso (Kd.pair (Kd.int .i64) (Kd.pair (Kd.int .i64) (Kd.pair (Kd.int .u64) (Kd.pair Kd.string (Kd.slice 25 d))))) (fun x : S25 => (x.f0, x.f1, x.f2, x.f3, x.f4))
theorem mono25 : Kd.Mono F25 := Kd.mono_iso _ (Kd.mono_pair (Kd.mono_const _) (Kd.mono_pair (Kd.mono_const _) (Kd.mono_pair (Kd.mono_const _) (Kd.mono_pair (Kd.mono_const _) (Kd.mono_slice 25 Kd.mono_id)))))
theorem sub25 : Kd.Sub F25 [25] := Kd.sub_iso _ (Kd.sub_pair (Kd.sub_const _ (by decide)) (Kd.sub_pair (Kd.sub_const _ (by decide)) (Kd.sub_pair (Kd.sub_const _ (by decide)) (Kd.sub_pair (Kd.sub_const _ (by decide)) (Kd.sub_slice 25 (by decide) Kd.sub_id)))))
theorem sz25 : ∀ n, (Kd.upto F25 5 [25] n).sz = 5 := Kd.upto_sz (fun _ => rfl)
def k25 : Kd S25 := Kd.fix F25 5 [25] sz25 (Kd.upto_E sub25)
theorem k25_open {w : World} {x : S25} {cs : List Value} (h : k25.K w x cs) : ∃ A4 c4, cs = [.int .i64 x.f0, .int .i64 x.f1, .int .u64 x.f2, .string x.f3, .slice A4 x.f4.length c4] ∧ x.f4.length ≤ c4 ∧ k25.C w A4 x.f4.length x.f4 := by
  obtain ⟨n, h⟩ := h
  cases n with
  | zero => exact h.elim
  | succ n =>
    obtain ⟨_, _, rfl, rfl, ⟨_, _, rfl, rfl, ⟨_, _, rfl, rfl, ⟨_, _, rfl, rfl, ⟨A4, c4, rfl, l4, g4⟩⟩⟩⟩⟩ := h
    exact ⟨A4, c4, rfl, l4, Kd.fix_C g4⟩
theorem k25_openM {w : World} {base : Nat} {ok : Nat → Prop} {x : S25} {cs : List Value} (h : k25.M w base ok x cs) : ∃ v4, cs = [.int .i64 x.f0, .int .i64 x.f1, .int .u64 x.f2, .string x.f3, v4] ∧ k25.R 25 w base ok v4 x.f4 := by
  obtain ⟨n, h⟩ := h
  cases n with
  | zero => exact h.elim
  | succ n =>
    obtain ⟨_, _, rfl, rfl, ⟨_, _, rfl, rfl, ⟨_, _, rfl, rfl, ⟨_, _, rfl, rfl, ⟨v4, rfl, g4⟩⟩⟩⟩⟩ := h
    exact ⟨v4, rfl, Kd.fix_R g4⟩
theorem k25_mk (w : World) (x : S25) {A4 : Option Addr} {c4 : Nat} (l4 : x.f4.length ≤ c4) (g4 : k25.C w A4 x.f4.length x.f4) : k25.K w x [.int .i64 x.f0, .int .i64 x.f1, .int .u64 x.f2, .string x.f3, .slice A4 x.f4.length c4] := by
  obtain ⟨n4, q4⟩ := Kd.fix_C_back mono25 g4
  have r4 := Kd.upto_C_le mono25 sz25 (show n4 ≤ n4 by omega) q4
  exact ⟨n4 + 1, ⟨[.int .i64 x.f0], [.int .i64 x.f1, .int .u64 x.f2, .string x.f3, .slice A4 x.f4.length c4], rfl, rfl, ⟨[.int .i64 x.f1], [.int .u64 x.f2, .string x.f3, .slice A4 x.f4.length c4], rfl, rfl, ⟨[.int .u64 x.f2], [.string x.f3, .slice A4 x.f4.length c4], rfl, rfl, ⟨[.string x.f3], [.slice A4 x.f4.length c4], rfl, rfl, ⟨A4, c4, rfl, l4, r4⟩⟩⟩⟩⟩⟩
theorem k25_mkM (w : World) (base : Nat) (ok : Nat → Prop) (x : S25) {v4 : Value} (g4 : k25.R 25 w base ok v4 x.f4) : k25.M w base ok x [.int .i64 x.f0, .int .i64 x.f1, .int .u64 x.f2, .string x.f3, v4] := by
  obtain ⟨n4, q4⟩ := Kd.fix_R_back mono25 g4
  have r4 := Kd.upto_R_le mono25 sz25 (show n4 ≤ n4 by omega) q4
  exact ⟨n4 + 1, ⟨[.int .i64 x.f0], [.int .i64 x.f1, .int .u64 x.f2, .string x.f3, v4], rfl, rfl, ⟨[.int .i64 x.f1], [.int .u64 x.f2, .string x.f3, v4], rfl, rfl, ⟨[.int .u64 x.f2], [.string x.f3, v4], rfl, rfl, ⟨[.string x.f3], [v4], rfl, rfl, ⟨v4, rfl, r4⟩⟩⟩⟩⟩⟩
theorem k25_openF {W : World} {ok : Nat → Prop} {x : S25} {cs : List Value} (h : Kd.FK k25 W ok x cs) : ∃ A4 c4, cs = [.int .i64 x.f0, .int .i64 x.f1, .int .u64 x.f2, .string x.f3, .slice A4 x.f4.length c4] ∧ x.f4.length ≤ c4 ∧ Kd.F k25 W ok A4 x.f4.length x.f4 := by
  obtain ⟨A4, c4, rfl, l4, _⟩ := k25_open (Kd.FK_now h)
  exact ⟨A4, c4, rfl, l4, (fun W' hW => by obtain ⟨A4_, c4_, he, l4_, g4_⟩ := k25_open (h W' hW); injection (Option.some.inj (show some (Value.slice A4 x.f4.length c4) = some (Value.slice A4_ x.f4.length c4_) from congrArg (fun l => l[4]?) he)) with ha_ _ _; rw [ha_]; exact g4_)⟩
theorem k25_mkF (W : World) (ok : Nat → Prop) (x : S25) {A4 : Option Addr} {c4 : Nat} (l4 : x.f4.length ≤ c4) (g4 : Kd.F k25 W ok A4 x.f4.length x.f4) : Kd.FK k25 W ok x [.int .i64 x.f0, .int .i64 x.f1, .int .u64 x.f2, .string x.f3, .slice A4 x.f4.length c4] := fun W2 hW => k25_mk W2 x l4 (g4 W2 hW)
def rd_T25 (xs : List S25) (i : Int) : S25 := xs.getD i.toNat z25
theorem at_T25 {w : World} {A : Option Addr} {n : Nat} {xs : List S25} (h : Kd.C k25 w A n xs) (i : Int) (h0 : 0 ≤ i) (h1 : i < n) : ∃ ad A4 c4, A = some ad ∧ w.cell? (ad.add (i.toNat * 5)) = some (.int .i64 (rd_T25 xs i).f0) ∧ w.cell? ⟨(ad.add (i.toNat * 5)).block, (ad.add (i.toNat * 5)).off + 1, none⟩ = some (.int .i64 (rd_T25 xs i).f1) ∧ w.cell? ⟨(ad.add (i.toNat * 5)).block, (ad.add (i.toNat * 5)).off + 2, none⟩ = some (.int .u64 (rd_T25 xs i).f2) ∧ w.cell? ⟨(ad.add (i.toNat * 5)).block, (ad.add (i.toNat * 5)).off + 3, none⟩ = some (.string (rd_T25 xs i).f3) ∧ w.cell? ⟨(ad.add (i.toNat * 5)).block, (ad.add (i.toNat * 5)).off + 4, none⟩ = some (.slice A4 (rd_T25 xs i).f4.length c4) ∧ (rd_T25 xs i).f4.length ≤ c4 ∧ k25.C w A4 (rd_T25 xs i).f4.length (rd_T25 xs i).f4 := by
  obtain ⟨ad, c, e, _, hK, hc0⟩ := Kd.C_get h z25 i h0 h1
  have hc : ∀ j u, c[j]? = some u → w.cell? (ad.add (i.toNat * 5 + j)) = some u := hc0
  obtain ⟨A4, c4, rfl, l4, g4⟩ := k25_open hK
  exact ⟨ad, A4, c4, e, hc 0 _ rfl, by rw [← add_field _ _ 1 (by omega)]; exact hc 1 _ rfl, by rw [← add_field _ _ 2 (by omega)]; exact hc 2 _ rfl, by rw [← add_field _ _ 3 (by omega)]; exact hc 3 _ rfl, by rw [← add_field _ _ 4 (by omega)]; exact hc 4 _ rfl, l4, g4⟩

end Go.Proofs.YtkogipaaioibaaaGreatDoor.PAll
