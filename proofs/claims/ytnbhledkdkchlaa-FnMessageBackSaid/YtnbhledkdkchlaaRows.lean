/-
  No cell of these rows narrows 'for every input' (looked for: loops, veiled, ifaces, maps, wideKeys, modest, calm, conditions, laid).
  DERIVED. THE GIVEN ROWS OF THIS SEAT. 11 by the template 'for every input the law returns true; each argument reads behind the call as it read before'; 0 by the template 'total and deterministic' (their statements: YtnbhledkdkchlaaTotals.lean).
  GIVEN WITH THE SEED: the statements are not yours to turn. If you find one false, say at which input.
  Laid BY PROGRAM, IN A SANDBOX (cutbox-rows.mjs): the forced cells as the released guide's own fill.sh prints them over the translation e701189b56b6aeae… (all of the seat's roots in one cut). By AI agents, Wed Nov 11 2026. No macro, syntax, notation, axiom, sorry.
-/
import Derived.Test.YtnbhledkdkchlaaChecked
import GoSem.Claim
import GoSem.ClaimJoined
import GoSem.ClaimMapViews
import Derived.JoinedTies
import Derived.KernelRfl
namespace Go.Proofs.Ytnbhledkdkchlaa
/- THE CELL 'sum', in the pinned program and in every row, IS THE sha256 OF THE DUMP (.gsa) THAT YtnbhledkdkchlaaProg.lean LOADS. Nothing in Lean hashes anything: it is a label: what it is worth is what the hold of that sum in a sandbox is worth. -/
noncomputable def Try.pinned : Pinned := { name := "ytnbhledkdkchlaa", sum := "e701189b56b6aeae9634ad6f60d8704ad1ea3d7bf0743c4898dbd30c105cb9ca", checked := Try.checked }
namespace Rows
def none {H : Type} : Left H := { results := [], args := [] }

/-- 'laws.FnSlotKey': WHATEVER THE INPUT: true; the input reads as it did. -/
def fnSlotKeySpec : ChangeSpec := { name := "fnSlotKey", fn := fun _ => fun
  | [d] => { results := [.lit (.bool true)], args := [d] }
  | _ => none }
def fnSlotKeyRow : OpenClaim := { program := "ytnbhledkdkchlaa", sum := "e701189b56b6aeae9634ad6f60d8704ad1ea3d7bf0743c4898dbd30c105cb9ca", func := "pub-telautograph/laws.FnSlotKey", spec := "fnSlotKey", inPlace := ["internal/bytealg.IndexByteString", "math.Float64frombits", "math.Float64bits"], recurses := true, apart := false }
def FnSlotKeySaid : Prop := fnSlotKeyRow.holds Try.pinned (OpenSpec.ofChange fnSlotKeySpec)

/-- ITS FALSE NEIGHBOUR: 'it returns false'. Refute it at one input. -/
def fnSlotKeyWrong : ChangeSpec := { name := "fnSlotKey", fn := fun _ => fun
  | [d] => { results := [.lit (.bool false)], args := [d] }
  | _ => none }
def FnSlotKeyWrongFalsely : Prop := fnSlotKeyRow.holds Try.pinned (OpenSpec.ofChange fnSlotKeyWrong)

/-- 'laws.FnSlotTag': WHATEVER THE INPUT: true; the input reads as it did. -/
def fnSlotTagSpec : ChangeSpec := { name := "fnSlotTag", fn := fun _ => fun
  | [d1, d2, d3] => { results := [.lit (.bool true)], args := [d1, d2, d3] }
  | _ => none }
def fnSlotTagRow : OpenClaim := { program := "ytnbhledkdkchlaa", sum := "e701189b56b6aeae9634ad6f60d8704ad1ea3d7bf0743c4898dbd30c105cb9ca", func := "pub-telautograph/laws.FnSlotTag", spec := "fnSlotTag", inPlace := ["internal/bytealg.IndexByteString", "math.Float64frombits", "math.Float64bits"], recurses := true, apart := false }
def FnSlotTagSaid : Prop := fnSlotTagRow.holds Try.pinned (OpenSpec.ofChange fnSlotTagSpec)

/-- ITS FALSE NEIGHBOUR: 'it returns false'. Refute it at one input. -/
def fnSlotTagWrong : ChangeSpec := { name := "fnSlotTag", fn := fun _ => fun
  | [d1, d2, d3] => { results := [.lit (.bool false)], args := [d1, d2, d3] }
  | _ => none }
def FnSlotTagWrongFalsely : Prop := fnSlotTagRow.holds Try.pinned (OpenSpec.ofChange fnSlotTagWrong)

/-- 'laws.FnMessageShort': WHATEVER THE INPUT: true; the input reads as it did. -/
def fnMessageShortSpec : ChangeSpec := { name := "fnMessageShort", fn := fun _ => fun
  | [d] => { results := [.lit (.bool true)], args := [d] }
  | _ => none }
def fnMessageShortRow : OpenClaim := { program := "ytnbhledkdkchlaa", sum := "e701189b56b6aeae9634ad6f60d8704ad1ea3d7bf0743c4898dbd30c105cb9ca", func := "pub-telautograph/laws.FnMessageShort", spec := "fnMessageShort", inPlace := ["math.Float64frombits", "math.Float64bits", "internal/bytealg.IndexByteString"], recurses := true, apart := false }
def FnMessageShortSaid : Prop := fnMessageShortRow.holds Try.pinned (OpenSpec.ofChange fnMessageShortSpec)

/-- ITS FALSE NEIGHBOUR: 'it returns false'. Refute it at one input. -/
def fnMessageShortWrong : ChangeSpec := { name := "fnMessageShort", fn := fun _ => fun
  | [d] => { results := [.lit (.bool false)], args := [d] }
  | _ => none }
def FnMessageShortWrongFalsely : Prop := fnMessageShortRow.holds Try.pinned (OpenSpec.ofChange fnMessageShortWrong)

/-- 'laws.FnNames': WHATEVER THE INPUT: true; the input reads as it did. -/
def fnNamesSpec : ChangeSpec := { name := "fnNames", fn := fun _ => fun
  | [d] => { results := [.lit (.bool true)], args := [d] }
  | _ => none }
def fnNamesRow : OpenClaim := { program := "ytnbhledkdkchlaa", sum := "e701189b56b6aeae9634ad6f60d8704ad1ea3d7bf0743c4898dbd30c105cb9ca", func := "pub-telautograph/laws.FnNames", spec := "fnNames", inPlace := ["math.Float64frombits", "math.Float64bits", "internal/bytealg.IndexByteString"], recurses := true, apart := false }
def FnNamesSaid : Prop := fnNamesRow.holds Try.pinned (OpenSpec.ofChange fnNamesSpec)

/-- ITS FALSE NEIGHBOUR: 'it returns false'. Refute it at one input. -/
def fnNamesWrong : ChangeSpec := { name := "fnNames", fn := fun _ => fun
  | [d] => { results := [.lit (.bool false)], args := [d] }
  | _ => none }
def FnNamesWrongFalsely : Prop := fnNamesRow.holds Try.pinned (OpenSpec.ofChange fnNamesWrong)

/-- 'laws.FnCommandName': WHATEVER THE INPUT: true; the input reads as it did. -/
def fnCommandNameSpec : ChangeSpec := { name := "fnCommandName", fn := fun _ => fun
  | [d] => { results := [.lit (.bool true)], args := [d] }
  | _ => none }
def fnCommandNameRow : OpenClaim := { program := "ytnbhledkdkchlaa", sum := "e701189b56b6aeae9634ad6f60d8704ad1ea3d7bf0743c4898dbd30c105cb9ca", func := "pub-telautograph/laws.FnCommandName", spec := "fnCommandName", inPlace := ["internal/bytealg.MakeNoZero", "math.Float64frombits", "math.Float64bits", "internal/bytealg.IndexByteString"], recurses := true, apart := false }
def FnCommandNameSaid : Prop := fnCommandNameRow.holds Try.pinned (OpenSpec.ofChange fnCommandNameSpec)

/-- ITS FALSE NEIGHBOUR: 'it returns false'. Refute it at one input. -/
def fnCommandNameWrong : ChangeSpec := { name := "fnCommandName", fn := fun _ => fun
  | [d] => { results := [.lit (.bool false)], args := [d] }
  | _ => none }
def FnCommandNameWrongFalsely : Prop := fnCommandNameRow.holds Try.pinned (OpenSpec.ofChange fnCommandNameWrong)

/-- 'laws.FnCommandText': WHATEVER THE INPUT: true; the input reads as it did. -/
def fnCommandTextSpec : ChangeSpec := { name := "fnCommandText", fn := fun _ => fun
  | [d] => { results := [.lit (.bool true)], args := [d] }
  | _ => none }
def fnCommandTextRow : OpenClaim := { program := "ytnbhledkdkchlaa", sum := "e701189b56b6aeae9634ad6f60d8704ad1ea3d7bf0743c4898dbd30c105cb9ca", func := "pub-telautograph/laws.FnCommandText", spec := "fnCommandText", inPlace := ["math.Float64frombits", "math.Float64bits", "internal/bytealg.IndexByteString"], unfollowed := true, recurses := true, apart := false }
def FnCommandTextSaid : Prop := fnCommandTextRow.holds Try.pinned (OpenSpec.ofChange fnCommandTextSpec)

/-- ITS FALSE NEIGHBOUR: 'it returns false'. Refute it at one input. -/
def fnCommandTextWrong : ChangeSpec := { name := "fnCommandText", fn := fun _ => fun
  | [d] => { results := [.lit (.bool false)], args := [d] }
  | _ => none }
def FnCommandTextWrongFalsely : Prop := fnCommandTextRow.holds Try.pinned (OpenSpec.ofChange fnCommandTextWrong)

/-- 'laws.FnMessageBack': WHATEVER THE INPUT: true; the input reads as it did. -/
def fnMessageBackSpec : ChangeSpec := { name := "fnMessageBack", fn := fun _ => fun
  | [d] => { results := [.lit (.bool true)], args := [d] }
  | _ => none }
def fnMessageBackRow : OpenClaim := { program := "ytnbhledkdkchlaa", sum := "e701189b56b6aeae9634ad6f60d8704ad1ea3d7bf0743c4898dbd30c105cb9ca", func := "pub-telautograph/laws.FnMessageBack", spec := "fnMessageBack", inPlace := ["math.Float64frombits", "math.Float64bits", "internal/bytealg.IndexByteString"], unfollowed := true, recurses := true, apart := false }
def FnMessageBackSaid : Prop := fnMessageBackRow.holds Try.pinned (OpenSpec.ofChange fnMessageBackSpec)

/-- ITS FALSE NEIGHBOUR: 'it returns false'. Refute it at one input. -/
def fnMessageBackWrong : ChangeSpec := { name := "fnMessageBack", fn := fun _ => fun
  | [d] => { results := [.lit (.bool false)], args := [d] }
  | _ => none }
def FnMessageBackWrongFalsely : Prop := fnMessageBackRow.holds Try.pinned (OpenSpec.ofChange fnMessageBackWrong)

/-- 'laws.FnFrameRead': WHATEVER THE INPUT: true; the input reads as it did. -/
def fnFrameReadSpec : ChangeSpec := { name := "fnFrameRead", fn := fun _ => fun
  | [d] => { results := [.lit (.bool true)], args := [d] }
  | _ => none }
def fnFrameReadRow : OpenClaim := { program := "ytnbhledkdkchlaa", sum := "e701189b56b6aeae9634ad6f60d8704ad1ea3d7bf0743c4898dbd30c105cb9ca", func := "pub-telautograph/laws.FnFrameRead", spec := "fnFrameRead", inPlace := ["math.Float64frombits", "math.Float64bits", "internal/bytealg.IndexByteString"], recurses := true, apart := false }
def FnFrameReadSaid : Prop := fnFrameReadRow.holds Try.pinned (OpenSpec.ofChange fnFrameReadSpec)

/-- ITS FALSE NEIGHBOUR: 'it returns false'. Refute it at one input. -/
def fnFrameReadWrong : ChangeSpec := { name := "fnFrameRead", fn := fun _ => fun
  | [d] => { results := [.lit (.bool false)], args := [d] }
  | _ => none }
def FnFrameReadWrongFalsely : Prop := fnFrameReadRow.holds Try.pinned (OpenSpec.ofChange fnFrameReadWrong)

/-- 'laws.FnFrameRow': WHATEVER THE INPUT: true; the input reads as it did. -/
def fnFrameRowSpec : ChangeSpec := { name := "fnFrameRow", fn := fun _ => fun
  | [d1, d2] => { results := [.lit (.bool true)], args := [d1, d2] }
  | _ => none }
def fnFrameRowRow : OpenClaim := { program := "ytnbhledkdkchlaa", sum := "e701189b56b6aeae9634ad6f60d8704ad1ea3d7bf0743c4898dbd30c105cb9ca", func := "pub-telautograph/laws.FnFrameRow", spec := "fnFrameRow", inPlace := ["math.Float64frombits", "math.Float64bits", "internal/bytealg.IndexByteString"], recurses := true, apart := false }
def FnFrameRowSaid : Prop := fnFrameRowRow.holds Try.pinned (OpenSpec.ofChange fnFrameRowSpec)

/-- ITS FALSE NEIGHBOUR: 'it returns false'. Refute it at one input. -/
def fnFrameRowWrong : ChangeSpec := { name := "fnFrameRow", fn := fun _ => fun
  | [d1, d2] => { results := [.lit (.bool false)], args := [d1, d2] }
  | _ => none }
def FnFrameRowWrongFalsely : Prop := fnFrameRowRow.holds Try.pinned (OpenSpec.ofChange fnFrameRowWrong)

/-- 'laws.FnFrameCut': WHATEVER THE INPUT: true; the input reads as it did. -/
def fnFrameCutSpec : ChangeSpec := { name := "fnFrameCut", fn := fun _ => fun
  | [d1, d2, d3] => { results := [.lit (.bool true)], args := [d1, d2, d3] }
  | _ => none }
def fnFrameCutRow : OpenClaim := { program := "ytnbhledkdkchlaa", sum := "e701189b56b6aeae9634ad6f60d8704ad1ea3d7bf0743c4898dbd30c105cb9ca", func := "pub-telautograph/laws.FnFrameCut", spec := "fnFrameCut", inPlace := ["math.Float64frombits", "math.Float64bits", "internal/bytealg.IndexByteString"], recurses := true, apart := false }
def FnFrameCutSaid : Prop := fnFrameCutRow.holds Try.pinned (OpenSpec.ofChange fnFrameCutSpec)

/-- ITS FALSE NEIGHBOUR: 'it returns false'. Refute it at one input. -/
def fnFrameCutWrong : ChangeSpec := { name := "fnFrameCut", fn := fun _ => fun
  | [d1, d2, d3] => { results := [.lit (.bool false)], args := [d1, d2, d3] }
  | _ => none }
def FnFrameCutWrongFalsely : Prop := fnFrameCutRow.holds Try.pinned (OpenSpec.ofChange fnFrameCutWrong)

/-- 'laws.FnFrameBack': WHATEVER THE INPUT: true; the input reads as it did. -/
def fnFrameBackSpec : ChangeSpec := { name := "fnFrameBack", fn := fun _ => fun
  | [d1, d2, d3] => { results := [.lit (.bool true)], args := [d1, d2, d3] }
  | _ => none }
def fnFrameBackRow : OpenClaim := { program := "ytnbhledkdkchlaa", sum := "e701189b56b6aeae9634ad6f60d8704ad1ea3d7bf0743c4898dbd30c105cb9ca", func := "pub-telautograph/laws.FnFrameBack", spec := "fnFrameBack", inPlace := ["math.Float64frombits", "math.Float64bits", "internal/bytealg.IndexByteString"], recurses := true, apart := false }
def FnFrameBackSaid : Prop := fnFrameBackRow.holds Try.pinned (OpenSpec.ofChange fnFrameBackSpec)

/-- ITS FALSE NEIGHBOUR: 'it returns false'. Refute it at one input. -/
def fnFrameBackWrong : ChangeSpec := { name := "fnFrameBack", fn := fun _ => fun
  | [d1, d2, d3] => { results := [.lit (.bool false)], args := [d1, d2, d3] }
  | _ => none }
def FnFrameBackWrongFalsely : Prop := fnFrameBackRow.holds Try.pinned (OpenSpec.ofChange fnFrameBackWrong)

/- THE SECOND FORM. 'bulk': how many values and letters a reading holds, each counted each time it is reached (what is shared counts as often as it is met; a slice's spare places count too). A statement '..UptoSaid' is the law's where the arguments, and the package variables that the reading takes, are together of bulk at most 1048576: NARROWER than '..Said'. Prove '..Said' where nothing that the law and all that it calls make is longer than what came in: it says more and counts as full. Else prove '..UptoSaid'. A law counts once. -/
mutual
def uptoBulk {H : Type} : DataW H → Nat
  | .lit (.string bytes) => bytes.length + 1
  | .lit _ => 1
  | .nil => 1
  | .ptr d => uptoBulk d + 1
  | .slice elems spare => uptoBulkAll elems + uptoBulkAll spare + 1
  | .agg parts => uptoBulkAll parts + 1
  | .iface _ d => uptoBulk d + 1
  | .map entries => uptoBulkEntries entries + 1
  | .held _ => 1
def uptoBulkAll {H : Type} : List (DataW H) → Nat
  | [] => 0
  | d :: r => uptoBulk d + uptoBulkAll r
def uptoBulkEntries {H : Type} : List (Lit × DataW H) → Nat
  | [] => 0
  | x :: r => uptoBulkEntry x + uptoBulkEntries r
def uptoBulkEntry {H : Type} : Lit × DataW H → Nat
  | (.string bytes, d) => bytes.length + uptoBulk d + 1
  | (_, d) => uptoBulk d + 1
 end
def uptoSmall : (H : Type) → List (DataW H) → Bool := fun _ ds => decide (uptoBulkAll ds ≤ 1048576)
def OpenSpec.upto (s : _root_.Go.ChangeSpec) : _root_.Go.OpenSpec := { _root_.Go.OpenSpec.ofChange s with cond := some uptoSmall }

/-- 'laws.FnSlotKey', WHERE WHAT IT READS IS OF BULK AT MOST 1048576: true; the input reads as it did. -/
def fnSlotKeyUptoRow : OpenClaim := { program := "ytnbhledkdkchlaa", sum := "e701189b56b6aeae9634ad6f60d8704ad1ea3d7bf0743c4898dbd30c105cb9ca", func := "pub-telautograph/laws.FnSlotKey", spec := "fnSlotKey", inPlace := ["internal/bytealg.IndexByteString", "math.Float64frombits", "math.Float64bits"], recurses := true, apart := false, narrowed := true }
def FnSlotKeyUptoSaid : Prop := fnSlotKeyUptoRow.holds Try.pinned (OpenSpec.upto fnSlotKeySpec)

/-- 'laws.FnSlotTag', WHERE WHAT IT READS IS OF BULK AT MOST 1048576: true; the input reads as it did. -/
def fnSlotTagUptoRow : OpenClaim := { program := "ytnbhledkdkchlaa", sum := "e701189b56b6aeae9634ad6f60d8704ad1ea3d7bf0743c4898dbd30c105cb9ca", func := "pub-telautograph/laws.FnSlotTag", spec := "fnSlotTag", inPlace := ["internal/bytealg.IndexByteString", "math.Float64frombits", "math.Float64bits"], recurses := true, apart := false, narrowed := true }
def FnSlotTagUptoSaid : Prop := fnSlotTagUptoRow.holds Try.pinned (OpenSpec.upto fnSlotTagSpec)

/-- 'laws.FnMessageShort', WHERE WHAT IT READS IS OF BULK AT MOST 1048576: true; the input reads as it did. -/
def fnMessageShortUptoRow : OpenClaim := { program := "ytnbhledkdkchlaa", sum := "e701189b56b6aeae9634ad6f60d8704ad1ea3d7bf0743c4898dbd30c105cb9ca", func := "pub-telautograph/laws.FnMessageShort", spec := "fnMessageShort", inPlace := ["math.Float64frombits", "math.Float64bits", "internal/bytealg.IndexByteString"], recurses := true, apart := false, narrowed := true }
def FnMessageShortUptoSaid : Prop := fnMessageShortUptoRow.holds Try.pinned (OpenSpec.upto fnMessageShortSpec)

/-- 'laws.FnNames', WHERE WHAT IT READS IS OF BULK AT MOST 1048576: true; the input reads as it did. -/
def fnNamesUptoRow : OpenClaim := { program := "ytnbhledkdkchlaa", sum := "e701189b56b6aeae9634ad6f60d8704ad1ea3d7bf0743c4898dbd30c105cb9ca", func := "pub-telautograph/laws.FnNames", spec := "fnNames", inPlace := ["math.Float64frombits", "math.Float64bits", "internal/bytealg.IndexByteString"], recurses := true, apart := false, narrowed := true }
def FnNamesUptoSaid : Prop := fnNamesUptoRow.holds Try.pinned (OpenSpec.upto fnNamesSpec)

/-- 'laws.FnCommandName', WHERE WHAT IT READS IS OF BULK AT MOST 1048576: true; the input reads as it did. -/
def fnCommandNameUptoRow : OpenClaim := { program := "ytnbhledkdkchlaa", sum := "e701189b56b6aeae9634ad6f60d8704ad1ea3d7bf0743c4898dbd30c105cb9ca", func := "pub-telautograph/laws.FnCommandName", spec := "fnCommandName", inPlace := ["internal/bytealg.MakeNoZero", "math.Float64frombits", "math.Float64bits", "internal/bytealg.IndexByteString"], recurses := true, apart := false, narrowed := true }
def FnCommandNameUptoSaid : Prop := fnCommandNameUptoRow.holds Try.pinned (OpenSpec.upto fnCommandNameSpec)

/-- 'laws.FnCommandText', WHERE WHAT IT READS IS OF BULK AT MOST 1048576: true; the input reads as it did. -/
def fnCommandTextUptoRow : OpenClaim := { program := "ytnbhledkdkchlaa", sum := "e701189b56b6aeae9634ad6f60d8704ad1ea3d7bf0743c4898dbd30c105cb9ca", func := "pub-telautograph/laws.FnCommandText", spec := "fnCommandText", inPlace := ["math.Float64frombits", "math.Float64bits", "internal/bytealg.IndexByteString"], unfollowed := true, recurses := true, apart := false, narrowed := true }
def FnCommandTextUptoSaid : Prop := fnCommandTextUptoRow.holds Try.pinned (OpenSpec.upto fnCommandTextSpec)

/-- 'laws.FnMessageBack', WHERE WHAT IT READS IS OF BULK AT MOST 1048576: true; the input reads as it did. -/
def fnMessageBackUptoRow : OpenClaim := { program := "ytnbhledkdkchlaa", sum := "e701189b56b6aeae9634ad6f60d8704ad1ea3d7bf0743c4898dbd30c105cb9ca", func := "pub-telautograph/laws.FnMessageBack", spec := "fnMessageBack", inPlace := ["math.Float64frombits", "math.Float64bits", "internal/bytealg.IndexByteString"], unfollowed := true, recurses := true, apart := false, narrowed := true }
def FnMessageBackUptoSaid : Prop := fnMessageBackUptoRow.holds Try.pinned (OpenSpec.upto fnMessageBackSpec)

/-- 'laws.FnFrameRead', WHERE WHAT IT READS IS OF BULK AT MOST 1048576: true; the input reads as it did. -/
def fnFrameReadUptoRow : OpenClaim := { program := "ytnbhledkdkchlaa", sum := "e701189b56b6aeae9634ad6f60d8704ad1ea3d7bf0743c4898dbd30c105cb9ca", func := "pub-telautograph/laws.FnFrameRead", spec := "fnFrameRead", inPlace := ["math.Float64frombits", "math.Float64bits", "internal/bytealg.IndexByteString"], recurses := true, apart := false, narrowed := true }
def FnFrameReadUptoSaid : Prop := fnFrameReadUptoRow.holds Try.pinned (OpenSpec.upto fnFrameReadSpec)

/-- 'laws.FnFrameRow', WHERE WHAT IT READS IS OF BULK AT MOST 1048576: true; the input reads as it did. -/
def fnFrameRowUptoRow : OpenClaim := { program := "ytnbhledkdkchlaa", sum := "e701189b56b6aeae9634ad6f60d8704ad1ea3d7bf0743c4898dbd30c105cb9ca", func := "pub-telautograph/laws.FnFrameRow", spec := "fnFrameRow", inPlace := ["math.Float64frombits", "math.Float64bits", "internal/bytealg.IndexByteString"], recurses := true, apart := false, narrowed := true }
def FnFrameRowUptoSaid : Prop := fnFrameRowUptoRow.holds Try.pinned (OpenSpec.upto fnFrameRowSpec)

/-- 'laws.FnFrameCut', WHERE WHAT IT READS IS OF BULK AT MOST 1048576: true; the input reads as it did. -/
def fnFrameCutUptoRow : OpenClaim := { program := "ytnbhledkdkchlaa", sum := "e701189b56b6aeae9634ad6f60d8704ad1ea3d7bf0743c4898dbd30c105cb9ca", func := "pub-telautograph/laws.FnFrameCut", spec := "fnFrameCut", inPlace := ["math.Float64frombits", "math.Float64bits", "internal/bytealg.IndexByteString"], recurses := true, apart := false, narrowed := true }
def FnFrameCutUptoSaid : Prop := fnFrameCutUptoRow.holds Try.pinned (OpenSpec.upto fnFrameCutSpec)

/-- 'laws.FnFrameBack', WHERE WHAT IT READS IS OF BULK AT MOST 1048576: true; the input reads as it did. -/
def fnFrameBackUptoRow : OpenClaim := { program := "ytnbhledkdkchlaa", sum := "e701189b56b6aeae9634ad6f60d8704ad1ea3d7bf0743c4898dbd30c105cb9ca", func := "pub-telautograph/laws.FnFrameBack", spec := "fnFrameBack", inPlace := ["math.Float64frombits", "math.Float64bits", "internal/bytealg.IndexByteString"], recurses := true, apart := false, narrowed := true }
def FnFrameBackUptoSaid : Prop := fnFrameBackUptoRow.holds Try.pinned (OpenSpec.upto fnFrameBackSpec)

end Rows
end Go.Proofs.Ytnbhledkdkchlaa
