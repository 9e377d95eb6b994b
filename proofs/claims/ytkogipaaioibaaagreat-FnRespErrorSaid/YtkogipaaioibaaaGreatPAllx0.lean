/- Lean functions and contracts for Go functions of this seat: each Go function comes to exactly what its Lean function answers (laid by the kit's print program over all laws of the seat at once). -/
import Derived.Test.YtkogipaaioibaaaGreatProg
import Derived.Below
import Derived.Deep.Draws
import Derived.Deep.AppendLies
import Derived.Maps.AppendAt
import Derived.OwnWalk
import Derived.Laws.BytesArg
import Derived.Laws.MakeOwn
import Derived.Laws.OwnMore
import Derived.Deep.OwnRows
import Derived.Tactics
import Derived.Lib.ConvBytes
import Derived.Laws.Slices
import Derived.WalkKit
import Derived.KernelRfl
import Derived.RowKit3
import Derived.Deep.LoopGhost
import Derived.Deep.QuietTactic
import Derived.BigQuiet
import Derived.WideLaws
import Derived.Deep.DeepCutAuto
import Derived.Deep.CutBlock
import Derived.Deep.RegionHeld3
import Derived.Laws.Rows
import Derived.Lib.AppendStr
import Derived.ArgAppend
import Derived.Laws.IdiomCopy
import Derived.OrdersHeld
import Derived.Laws.BitsLemmas
import Derived.RowKit
import Derived.Test.YtkogipaaioibaaaGreatWWords
import Derived.Test.YtkogipaaioibaaaGreatWLast
import Derived.Test.YtkogipaaioibaaaGreatWTab
import Derived.Test.YtkogipaaioibaaaGreatWFour
import Derived.Test.YtkogipaaioibaaaGreatWQPut
import Derived.Test.YtkogipaaioibaaaGreatWApart
import Derived.Test.YtkogipaaioibaaaGreatWArr
import Derived.Test.YtkogipaaioibaaaGreatWZeros
import Derived.Test.YtkogipaaioibaaaGreatWFoot
import Derived.Test.YtkogipaaioibaaaGreatWKept
import Derived.Test.YtkogipaaioibaaaGreatWShare
import Derived.Test.YtkogipaaioibaaaGreatWN
import Derived.Test.YtkogipaaioibaaaGreatWFootNe
import Derived.Test.YtkogipaaioibaaaGreatWAt
import Derived.Test.YtkogipaaioibaaaGreatWEqStruct
import Derived.Test.YtkogipaaioibaaaGreatWRepsOne
import Derived.Test.YtkogipaaioibaaaGreatWInv
import Derived.Test.YtkogipaaioibaaaGreatWInvWords
import Derived.Test.YtkogipaaioibaaaGreatWGuard
import Derived.Test.YtkogipaaioibaaaGreatWNEv
import Derived.Test.YtkogipaaioibaaaGreatWMore
namespace Go.Proofs.YtkogipaaioibaaaGreat.PAll
open Go.RowKit Go.Proofs.YtkogipaaioibaaaGreatW.PrintWords Go.Proofs.YtkogipaaioibaaaGreatW.PrintLast Go.Proofs.YtkogipaaioibaaaGreatW.PrintMore
attribute [local go_sem] max2_int min2_int max_two min_two max_three min_three max_four min_four   -- for this text's walks alone
set_option linter.unusedVariables false
set_option linter.unusedSimpArgs false



def errW : Option Int → Value
  | none => .nilIface
  | some c => .iface 0 (.int .i64 c)
theorem errW_none : errW none = .nilIface := rfl
theorem errW_some (c : Int) : errW (some c) = .iface 0 (.int .i64 c) := rfl

theorem info9 : (Tryz.prog.info? 9).map (fun i => (i.zero, i.size, i.bytes)) = some (some (.string ⟨#[]⟩), 1, 16) := by kernel_rfl
-- the values' own types

end Go.Proofs.YtkogipaaioibaaaGreat.PAll
