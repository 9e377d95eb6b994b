/- The row of the table of types at uint8. (a seat whose print does not tell it) -/
import Derived.Test.YtkogipaaioibaaaGreatPAllx0
namespace Go.Proofs.YtkogipaaioibaaaGreat.PAll
theorem info5 : (Tryz.prog.info? 5).map (fun i => (i.zero, i.size, i.bytes)) = some (some (.int .u8 0), 1, 1) := by kernel_rfl
end Go.Proofs.YtkogipaaioibaaaGreat.PAll
