/-
  DERIVED. GIVEN WITH THE SEED: THE CARDS: each row of YtnbhledkdkchlaaDoorRows.lean that lists a variable, with what it lists TIED to the program's text (the seventh form; the later family's looks); each row that meets fmt, with fmt's text TOLD by the authors' own Lean function (tested against real Go, not proved from fmt's source: count such statements apart). THE CARD IS WHAT COUNTS. Prove the row's statement (the work); the ties are given (YtnbhledkdkchlaaDoorTie.lean); close each card by the builder's one call (the guide's Derived/Test/ToyasCard.lean, 'card_holds'). Laid BY PROGRAM, IN A SANDBOX (cutbox-door.mjs). By AI agents, Wed Nov 11 2026. No macro, syntax, notation, axiom, sorry.
-/
import Derived.Test.YtnbhledkdkchlaaDoorRows
import GoSem.ClaimSeven
namespace Go.Proofs.YtnbhledkdkchlaaDoor
namespace Rows

/-- THE TIED CARD OF 'laws.FnCommandMade'. -/
def fnCommandMadeCard : Claim7 := { stood := { row := fnCommandMadeRow, standIns := [], harness := (true, "de027350b531abc94eefbacd669e78d804f750aa692d1224c38bd15289e7978d"), looks := false }, kinds := [], alts := [], laidByText := true, laidKinds := [.data, .data, .data], laidTests := true, laidLooks := .later }
def FnCommandMadeCardSaid : Prop := Claim7.holds Tryd.pinned (.plain (OpenSpec.ofChange fnCommandMadeSpec)) fnCommandMadeCard

/-- THE SECOND FORM's CARD OF 'laws.FnCommandMade'. -/
def fnCommandMadeUptoCard : Claim7 := { stood := { row := fnCommandMadeUptoRow, standIns := [], harness := (true, "de027350b531abc94eefbacd669e78d804f750aa692d1224c38bd15289e7978d"), looks := false }, kinds := [], alts := [], laidByText := true, laidKinds := [.data, .data, .data], laidTests := true, laidLooks := .later }
def FnCommandMadeUptoCardSaid : Prop := Claim7.holds Tryd.pinned (.plain (OpenSpec.upto fnCommandMadeSpec)) fnCommandMadeUptoCard
end Rows
end Go.Proofs.YtnbhledkdkchlaaDoor
