/-
  DERIVED. GIVEN WITH THE SEED: THE CARDS: each row of YtkogipaaioibaaaGreatDoorRows.lean that lists a variable, with what it lists TIED to the program's text (the seventh form; the later family's looks); each row that meets fmt, with fmt's text TOLD by the authors' own Lean function (tested against real Go, not proved from fmt's source: count such statements apart). THE CARD IS WHAT COUNTS. Prove the row's statement (the work); the ties are given (YtkogipaaioibaaaGreatDoorTie.lean); close each card by the builder's one call (the guide's Derived/Test/ToyasCard.lean, 'card_holds'). Laid BY PROGRAM, IN A SANDBOX (cutbox-door.mjs). By AI agents, Wed Nov 11 2026. No macro, syntax, notation, axiom, sorry.
-/
import Derived.Test.YtkogipaaioibaaaGreatDoorRows
import GoSem.ClaimSeven
namespace Go.Proofs.YtkogipaaioibaaaGreatDoor
namespace Rows

/-- THE TIED CARD OF 'laws.FnRespWhole'. -/
def fnRespWholeCard : Claim7 := { stood := { row := fnRespWholeRow, standIns := [], harness := (true, "75cfbe53fa0d6c4b5b004d55a9f0c485fe8b5ef4d966937d01c673345fdeaa0b"), looks := true }, kinds := [], alts := [], laidByText := true, laidKinds := [.data, .data, .data, .data, .sentinel, .sentinel, .pinned, .pinned], laidTests := true, laidLooks := .later }
def FnRespWholeCardSaid : Prop := Claim7.holds Tryz.pinned (.plain (OpenSpec.ofChange fnRespWholeSpec)) fnRespWholeCard

/-- THE TIED CARD OF 'laws.FnRespPush'. -/
def fnRespPushCard : Claim7 := { stood := { row := fnRespPushRow, standIns := [], harness := (true, "75cfbe53fa0d6c4b5b004d55a9f0c485fe8b5ef4d966937d01c673345fdeaa0b"), looks := true }, kinds := [], alts := [], laidByText := true, laidKinds := [.data, .data, .data, .data, .sentinel, .sentinel, .pinned, .pinned], laidTests := true, laidLooks := .later }
def FnRespPushCardSaid : Prop := Claim7.holds Tryz.pinned (.plain (OpenSpec.ofChange fnRespPushSpec)) fnRespPushCard

/-- THE TIED CARD OF 'laws.FnRespPeek'. -/
def fnRespPeekCard : Claim7 := { stood := { row := fnRespPeekRow, standIns := [], harness := (true, "75cfbe53fa0d6c4b5b004d55a9f0c485fe8b5ef4d966937d01c673345fdeaa0b"), looks := true }, kinds := [], alts := [], laidByText := true, laidKinds := [.data, .data, .data, .data, .sentinel, .sentinel, .pinned, .pinned], laidTests := true, laidLooks := .later }
def FnRespPeekCardSaid : Prop := Claim7.holds Tryz.pinned (.plain (OpenSpec.ofChange fnRespPeekSpec)) fnRespPeekCard

/-- THE SECOND FORM's CARD OF 'laws.FnRespWhole'. -/
def fnRespWholeUptoCard : Claim7 := { stood := { row := fnRespWholeUptoRow, standIns := [], harness := (true, "75cfbe53fa0d6c4b5b004d55a9f0c485fe8b5ef4d966937d01c673345fdeaa0b"), looks := true }, kinds := [], alts := [], laidByText := true, laidKinds := [.data, .data, .data, .data, .sentinel, .sentinel, .pinned, .pinned], laidTests := true, laidLooks := .later }
def FnRespWholeUptoCardSaid : Prop := Claim7.holds Tryz.pinned (.plain (OpenSpec.upto fnRespWholeSpec)) fnRespWholeUptoCard

/-- THE SECOND FORM's CARD OF 'laws.FnRespPush'. -/
def fnRespPushUptoCard : Claim7 := { stood := { row := fnRespPushUptoRow, standIns := [], harness := (true, "75cfbe53fa0d6c4b5b004d55a9f0c485fe8b5ef4d966937d01c673345fdeaa0b"), looks := true }, kinds := [], alts := [], laidByText := true, laidKinds := [.data, .data, .data, .data, .sentinel, .sentinel, .pinned, .pinned], laidTests := true, laidLooks := .later }
def FnRespPushUptoCardSaid : Prop := Claim7.holds Tryz.pinned (.plain (OpenSpec.upto fnRespPushSpec)) fnRespPushUptoCard

/-- THE SECOND FORM's CARD OF 'laws.FnRespPeek'. -/
def fnRespPeekUptoCard : Claim7 := { stood := { row := fnRespPeekUptoRow, standIns := [], harness := (true, "75cfbe53fa0d6c4b5b004d55a9f0c485fe8b5ef4d966937d01c673345fdeaa0b"), looks := true }, kinds := [], alts := [], laidByText := true, laidKinds := [.data, .data, .data, .data, .sentinel, .sentinel, .pinned, .pinned], laidTests := true, laidLooks := .later }
def FnRespPeekUptoCardSaid : Prop := Claim7.holds Tryz.pinned (.plain (OpenSpec.upto fnRespPeekSpec)) fnRespPeekUptoCard
end Rows
end Go.Proofs.YtkogipaaioibaaaGreatDoor
