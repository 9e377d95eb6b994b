/-
  NARROWER THAN 'FOR EVERY INPUT', by the rows' own cells (each row's printed sentence says how): FnPackInner: loops · FnPackText: loops · FnPackCut: loops · FnPackBack: loops · FnPackRow: loops · FnPackWide: loops.
  DERIVED. THE GIVEN ROWS OF THIS SEAT. 12 by the template 'for every input the law returns true; each argument reads behind the call as it read before'; 0 by the template 'total and deterministic' (their statements: YtjnookhdiolhgaaTotals.lean).
  GIVEN WITH THE SEED: the statements are not yours to turn. If you find one false, say at which input.
  Laid BY PROGRAM, IN A SANDBOX (cutbox-rows.mjs): the forced cells as the released guide's own fill.sh prints them over the translation f36777b6ad598f18… (all of the seat's roots in one cut). By AI agents, Wed Nov 11 2026. No macro, syntax, notation, axiom, sorry.
-/
import Derived.Test.YtjnookhdiolhgaaChecked
import GoSem.Claim
import GoSem.ClaimJoined
import GoSem.ClaimMapViews
import Derived.JoinedTies
import Derived.KernelRfl
namespace Go.Proofs.Ytjnookhdiolhgaa
/- THE CELL 'sum', in the pinned program and in every row, IS THE sha256 OF THE DUMP (.gsa) THAT YtjnookhdiolhgaaProg.lean LOADS. Nothing in Lean hashes anything: it is a label: what it is worth is what the hold of that sum in a sandbox is worth. -/
noncomputable def Try.pinned : Pinned := { name := "ytjnookhdiolhgaa", sum := "f36777b6ad598f185460d11ee0717170c5e5cf3987ab6a80ee1a942527712461", checked := Try.checked }
namespace Rows
def none {H : Type} : Left H := { results := [], args := [] }

/-- 'laws.FnPackInner': WHATEVER THE INPUT: true; the input reads as it did. -/
def fnPackInnerSpec : ChangeSpec := { name := "fnPackInner", fn := fun _ => fun
  | [d1, d2] => { results := [.lit (.bool true)], args := [d1, d2] }
  | _ => none }
def fnPackInnerRow : OpenClaim := { program := "ytjnookhdiolhgaa", sum := "f36777b6ad598f185460d11ee0717170c5e5cf3987ab6a80ee1a942527712461", func := "pub-telautograph/laws.FnPackInner", spec := "fnPackInner", inPlace := ["math.Float64frombits", "math.Float64bits", "internal/bytealg.IndexByteString"], recurses := true, loops := true, apart := false }
def FnPackInnerSaid : Prop := fnPackInnerRow.holds Try.pinned (OpenSpec.ofChange fnPackInnerSpec)

/-- ITS FALSE NEIGHBOUR: 'it returns false'. Refute it at one input. -/
def fnPackInnerWrong : ChangeSpec := { name := "fnPackInner", fn := fun _ => fun
  | [d1, d2] => { results := [.lit (.bool false)], args := [d1, d2] }
  | _ => none }
def FnPackInnerWrongFalsely : Prop := fnPackInnerRow.holds Try.pinned (OpenSpec.ofChange fnPackInnerWrong)

/-- 'laws.FnPackText': WHATEVER THE INPUT: true; the input reads as it did. -/
def fnPackTextSpec : ChangeSpec := { name := "fnPackText", fn := fun _ => fun
  | [d] => { results := [.lit (.bool true)], args := [d] }
  | _ => none }
def fnPackTextRow : OpenClaim := { program := "ytjnookhdiolhgaa", sum := "f36777b6ad598f185460d11ee0717170c5e5cf3987ab6a80ee1a942527712461", func := "pub-telautograph/laws.FnPackText", spec := "fnPackText", inPlace := ["math.Float64frombits", "math.Float64bits", "internal/bytealg.IndexByteString"], recurses := true, loops := true, apart := false }
def FnPackTextSaid : Prop := fnPackTextRow.holds Try.pinned (OpenSpec.ofChange fnPackTextSpec)

/-- ITS FALSE NEIGHBOUR: 'it returns false'. Refute it at one input. -/
def fnPackTextWrong : ChangeSpec := { name := "fnPackText", fn := fun _ => fun
  | [d] => { results := [.lit (.bool false)], args := [d] }
  | _ => none }
def FnPackTextWrongFalsely : Prop := fnPackTextRow.holds Try.pinned (OpenSpec.ofChange fnPackTextWrong)

/-- 'laws.FnSlot': WHATEVER THE INPUT: true; the input reads as it did. -/
def fnSlotSpec : ChangeSpec := { name := "fnSlot", fn := fun _ => fun
  | [d] => { results := [.lit (.bool true)], args := [d] }
  | _ => none }
def fnSlotRow : OpenClaim := { program := "ytjnookhdiolhgaa", sum := "f36777b6ad598f185460d11ee0717170c5e5cf3987ab6a80ee1a942527712461", func := "pub-telautograph/laws.FnSlot", spec := "fnSlot", inPlace := ["internal/bytealg.IndexByteString", "math.Float64frombits", "math.Float64bits"], recurses := true, apart := false }
def FnSlotSaid : Prop := fnSlotRow.holds Try.pinned (OpenSpec.ofChange fnSlotSpec)

/-- ITS FALSE NEIGHBOUR: 'it returns false'. Refute it at one input. -/
def fnSlotWrong : ChangeSpec := { name := "fnSlot", fn := fun _ => fun
  | [d] => { results := [.lit (.bool false)], args := [d] }
  | _ => none }
def FnSlotWrongFalsely : Prop := fnSlotRow.holds Try.pinned (OpenSpec.ofChange fnSlotWrong)

/-- 'laws.FnPackLists': WHATEVER THE INPUT: true; the input reads as it did. -/
def fnPackListsSpec : ChangeSpec := { name := "fnPackLists", fn := fun _ => fun
  | [d1, d2, d3, d4] => { results := [.lit (.bool true)], args := [d1, d2, d3, d4] }
  | _ => none }
def fnPackListsRow : OpenClaim := { program := "ytjnookhdiolhgaa", sum := "f36777b6ad598f185460d11ee0717170c5e5cf3987ab6a80ee1a942527712461", func := "pub-telautograph/laws.FnPackLists", spec := "fnPackLists", inPlace := ["math.Float64frombits", "math.Float64bits", "internal/bytealg.IndexByteString"], recurses := true, apart := false }
def FnPackListsSaid : Prop := fnPackListsRow.holds Try.pinned (OpenSpec.ofChange fnPackListsSpec)

/-- ITS FALSE NEIGHBOUR: 'it returns false'. Refute it at one input. -/
def fnPackListsWrong : ChangeSpec := { name := "fnPackLists", fn := fun _ => fun
  | [d1, d2, d3, d4] => { results := [.lit (.bool false)], args := [d1, d2, d3, d4] }
  | _ => none }
def FnPackListsWrongFalsely : Prop := fnPackListsRow.holds Try.pinned (OpenSpec.ofChange fnPackListsWrong)

/-- 'laws.FnPackMap': WHATEVER THE INPUT: true; the input reads as it did. -/
def fnPackMapSpec : ChangeSpec := { name := "fnPackMap", fn := fun _ => fun
  | [d1, d2, d3, d4, d5] => { results := [.lit (.bool true)], args := [d1, d2, d3, d4, d5] }
  | _ => none }
def fnPackMapRow : OpenClaim := { program := "ytjnookhdiolhgaa", sum := "f36777b6ad598f185460d11ee0717170c5e5cf3987ab6a80ee1a942527712461", func := "pub-telautograph/laws.FnPackMap", spec := "fnPackMap", inPlace := ["math.Float64frombits", "math.Float64bits", "internal/bytealg.IndexByteString"], recurses := true, apart := false }
def FnPackMapSaid : Prop := fnPackMapRow.holds Try.pinned (OpenSpec.ofChange fnPackMapSpec)

/-- ITS FALSE NEIGHBOUR: 'it returns false'. Refute it at one input. -/
def fnPackMapWrong : ChangeSpec := { name := "fnPackMap", fn := fun _ => fun
  | [d1, d2, d3, d4, d5] => { results := [.lit (.bool false)], args := [d1, d2, d3, d4, d5] }
  | _ => none }
def FnPackMapWrongFalsely : Prop := fnPackMapRow.holds Try.pinned (OpenSpec.ofChange fnPackMapWrong)

/-- 'laws.FnPackTokens': WHATEVER THE INPUT: true; the input reads as it did. -/
def fnPackTokensSpec : ChangeSpec := { name := "fnPackTokens", fn := fun _ => fun
  | [d1, d2] => { results := [.lit (.bool true)], args := [d1, d2] }
  | _ => none }
def fnPackTokensRow : OpenClaim := { program := "ytjnookhdiolhgaa", sum := "f36777b6ad598f185460d11ee0717170c5e5cf3987ab6a80ee1a942527712461", func := "pub-telautograph/laws.FnPackTokens", spec := "fnPackTokens", inPlace := ["math.Float64frombits", "math.Float64bits", "internal/bytealg.IndexByteString"], unfollowed := true, recurses := true, apart := false }
def FnPackTokensSaid : Prop := fnPackTokensRow.holds Try.pinned (OpenSpec.ofChange fnPackTokensSpec)

/-- ITS FALSE NEIGHBOUR: 'it returns false'. Refute it at one input. -/
def fnPackTokensWrong : ChangeSpec := { name := "fnPackTokens", fn := fun _ => fun
  | [d1, d2] => { results := [.lit (.bool false)], args := [d1, d2] }
  | _ => none }
def FnPackTokensWrongFalsely : Prop := fnPackTokensRow.holds Try.pinned (OpenSpec.ofChange fnPackTokensWrong)

/-- 'laws.FnPackCut': WHATEVER THE INPUT: true; the input reads as it did. -/
def fnPackCutSpec : ChangeSpec := { name := "fnPackCut", fn := fun _ => fun
  | [d1, d2] => { results := [.lit (.bool true)], args := [d1, d2] }
  | _ => none }
def fnPackCutRow : OpenClaim := { program := "ytjnookhdiolhgaa", sum := "f36777b6ad598f185460d11ee0717170c5e5cf3987ab6a80ee1a942527712461", func := "pub-telautograph/laws.FnPackCut", spec := "fnPackCut", inPlace := ["math.Float64frombits", "math.Float64bits", "internal/bytealg.IndexByteString"], unfollowed := true, recurses := true, loops := true, apart := false }
def FnPackCutSaid : Prop := fnPackCutRow.holds Try.pinned (OpenSpec.ofChange fnPackCutSpec)

/-- ITS FALSE NEIGHBOUR: 'it returns false'. Refute it at one input. -/
def fnPackCutWrong : ChangeSpec := { name := "fnPackCut", fn := fun _ => fun
  | [d1, d2] => { results := [.lit (.bool false)], args := [d1, d2] }
  | _ => none }
def FnPackCutWrongFalsely : Prop := fnPackCutRow.holds Try.pinned (OpenSpec.ofChange fnPackCutWrong)

/-- 'laws.FnPackRead': WHATEVER THE INPUT: true; the input reads as it did. -/
def fnPackReadSpec : ChangeSpec := { name := "fnPackRead", fn := fun _ => fun
  | [d] => { results := [.lit (.bool true)], args := [d] }
  | _ => none }
def fnPackReadRow : OpenClaim := { program := "ytjnookhdiolhgaa", sum := "f36777b6ad598f185460d11ee0717170c5e5cf3987ab6a80ee1a942527712461", func := "pub-telautograph/laws.FnPackRead", spec := "fnPackRead", inPlace := ["math.Float64frombits", "math.Float64bits", "internal/bytealg.IndexByteString"], unfollowed := true, recurses := true, apart := false }
def FnPackReadSaid : Prop := fnPackReadRow.holds Try.pinned (OpenSpec.ofChange fnPackReadSpec)

/-- ITS FALSE NEIGHBOUR: 'it returns false'. Refute it at one input. -/
def fnPackReadWrong : ChangeSpec := { name := "fnPackRead", fn := fun _ => fun
  | [d] => { results := [.lit (.bool false)], args := [d] }
  | _ => none }
def FnPackReadWrongFalsely : Prop := fnPackReadRow.holds Try.pinned (OpenSpec.ofChange fnPackReadWrong)

/-- 'laws.FnPackBack': WHATEVER THE INPUT: true; the input reads as it did. -/
def fnPackBackSpec : ChangeSpec := { name := "fnPackBack", fn := fun _ => fun
  | [d] => { results := [.lit (.bool true)], args := [d] }
  | _ => none }
def fnPackBackRow : OpenClaim := { program := "ytjnookhdiolhgaa", sum := "f36777b6ad598f185460d11ee0717170c5e5cf3987ab6a80ee1a942527712461", func := "pub-telautograph/laws.FnPackBack", spec := "fnPackBack", inPlace := ["math.Float64frombits", "math.Float64bits", "internal/bytealg.IndexByteString"], unfollowed := true, recurses := true, loops := true, apart := false }
def FnPackBackSaid : Prop := fnPackBackRow.holds Try.pinned (OpenSpec.ofChange fnPackBackSpec)

/-- ITS FALSE NEIGHBOUR: 'it returns false'. Refute it at one input. -/
def fnPackBackWrong : ChangeSpec := { name := "fnPackBack", fn := fun _ => fun
  | [d] => { results := [.lit (.bool false)], args := [d] }
  | _ => none }
def FnPackBackWrongFalsely : Prop := fnPackBackRow.holds Try.pinned (OpenSpec.ofChange fnPackBackWrong)

/-- 'laws.FnPackRow': WHATEVER THE INPUT: true; the input reads as it did. -/
def fnPackRowSpec : ChangeSpec := { name := "fnPackRow", fn := fun _ => fun
  | [d] => { results := [.lit (.bool true)], args := [d] }
  | _ => none }
def fnPackRowRow : OpenClaim := { program := "ytjnookhdiolhgaa", sum := "f36777b6ad598f185460d11ee0717170c5e5cf3987ab6a80ee1a942527712461", func := "pub-telautograph/laws.FnPackRow", spec := "fnPackRow", inPlace := ["math.Float64frombits", "math.Float64bits", "internal/bytealg.IndexByteString"], unfollowed := true, recurses := true, loops := true, apart := false }
def FnPackRowSaid : Prop := fnPackRowRow.holds Try.pinned (OpenSpec.ofChange fnPackRowSpec)

/-- ITS FALSE NEIGHBOUR: 'it returns false'. Refute it at one input. -/
def fnPackRowWrong : ChangeSpec := { name := "fnPackRow", fn := fun _ => fun
  | [d] => { results := [.lit (.bool false)], args := [d] }
  | _ => none }
def FnPackRowWrongFalsely : Prop := fnPackRowRow.holds Try.pinned (OpenSpec.ofChange fnPackRowWrong)

/-- 'laws.FnPackWide': WHATEVER THE INPUT: true; the input reads as it did. -/
def fnPackWideSpec : ChangeSpec := { name := "fnPackWide", fn := fun _ => fun
  | [d1, d2] => { results := [.lit (.bool true)], args := [d1, d2] }
  | _ => none }
def fnPackWideRow : OpenClaim := { program := "ytjnookhdiolhgaa", sum := "f36777b6ad598f185460d11ee0717170c5e5cf3987ab6a80ee1a942527712461", func := "pub-telautograph/laws.FnPackWide", spec := "fnPackWide", inPlace := ["math.Float64frombits", "math.Float64bits", "internal/bytealg.IndexByteString"], unfollowed := true, recurses := true, loops := true, apart := false }
def FnPackWideSaid : Prop := fnPackWideRow.holds Try.pinned (OpenSpec.ofChange fnPackWideSpec)

/-- ITS FALSE NEIGHBOUR: 'it returns false'. Refute it at one input. -/
def fnPackWideWrong : ChangeSpec := { name := "fnPackWide", fn := fun _ => fun
  | [d1, d2] => { results := [.lit (.bool false)], args := [d1, d2] }
  | _ => none }
def FnPackWideWrongFalsely : Prop := fnPackWideRow.holds Try.pinned (OpenSpec.ofChange fnPackWideWrong)

/-- 'laws.FnPackNumber': WHATEVER THE INPUT: true; the input reads as it did. -/
def fnPackNumberSpec : ChangeSpec := { name := "fnPackNumber", fn := fun _ => fun
  | [d1, d2] => { results := [.lit (.bool true)], args := [d1, d2] }
  | _ => none }
def fnPackNumberRow : OpenClaim := { program := "ytjnookhdiolhgaa", sum := "f36777b6ad598f185460d11ee0717170c5e5cf3987ab6a80ee1a942527712461", func := "pub-telautograph/laws.FnPackNumber", spec := "fnPackNumber", inPlace := ["math.Float32frombits", "math.Float64bits", "math.Float64frombits", "internal/bytealg.IndexByteString"], unfollowed := true, recurses := true, apart := false }
def FnPackNumberSaid : Prop := fnPackNumberRow.holds Try.pinned (OpenSpec.ofChange fnPackNumberSpec)

/-- ITS FALSE NEIGHBOUR: 'it returns false'. Refute it at one input. -/
def fnPackNumberWrong : ChangeSpec := { name := "fnPackNumber", fn := fun _ => fun
  | [d1, d2] => { results := [.lit (.bool false)], args := [d1, d2] }
  | _ => none }
def FnPackNumberWrongFalsely : Prop := fnPackNumberRow.holds Try.pinned (OpenSpec.ofChange fnPackNumberWrong)

/- THE SECOND FORM. 'bulk': how many values and letters a reading holds, each counted each time it is reached (what is shared counts as often as it is met; a slice's spare places count too). A statement '..UptoSaid' is the law's where the arguments, and the package variables that the reading takes, are together of bulk at most 1048576: NARROWER than '..Said'. Prove '..Said' where nothing that the law and all that it calls make is longer than what came in: it says more and counts as full. Else prove '..UptoSaid'. A law counts once. -/
mutual
def uptoBulk {H : Type} : DataW H → Nat
  | .lit (.string bytes) => bytes.length + 1
  | .lit _ => 1
  | .nil => 1
  | .ptr d => uptoBulk d + 1
  | .slice elems spare => uptoBulkAll elems + uptoBulkAll spare + 1
  | .agg parts => uptoBulkAll parts + 1
  | .iface _ d => uptoBulk d + 1
  | .map entries => uptoBulkEntries entries + 1
  | .held _ => 1
def uptoBulkAll {H : Type} : List (DataW H) → Nat
  | [] => 0
  | d :: r => uptoBulk d + uptoBulkAll r
def uptoBulkEntries {H : Type} : List (Lit × DataW H) → Nat
  | [] => 0
  | x :: r => uptoBulkEntry x + uptoBulkEntries r
def uptoBulkEntry {H : Type} : Lit × DataW H → Nat
  | (.string bytes, d) => bytes.length + uptoBulk d + 1
  | (_, d) => uptoBulk d + 1
 end
def uptoSmall : (H : Type) → List (DataW H) → Bool := fun _ ds => decide (uptoBulkAll ds ≤ 1048576)
def OpenSpec.upto (s : _root_.Go.ChangeSpec) : _root_.Go.OpenSpec := { _root_.Go.OpenSpec.ofChange s with cond := some uptoSmall }

/-- 'laws.FnPackInner', WHERE WHAT IT READS IS OF BULK AT MOST 1048576: true; the input reads as it did. -/
def fnPackInnerUptoRow : OpenClaim := { program := "ytjnookhdiolhgaa", sum := "f36777b6ad598f185460d11ee0717170c5e5cf3987ab6a80ee1a942527712461", func := "pub-telautograph/laws.FnPackInner", spec := "fnPackInner", inPlace := ["math.Float64frombits", "math.Float64bits", "internal/bytealg.IndexByteString"], recurses := true, loops := true, apart := false, narrowed := true }
def FnPackInnerUptoSaid : Prop := fnPackInnerUptoRow.holds Try.pinned (OpenSpec.upto fnPackInnerSpec)

/-- 'laws.FnPackText', WHERE WHAT IT READS IS OF BULK AT MOST 1048576: true; the input reads as it did. -/
def fnPackTextUptoRow : OpenClaim := { program := "ytjnookhdiolhgaa", sum := "f36777b6ad598f185460d11ee0717170c5e5cf3987ab6a80ee1a942527712461", func := "pub-telautograph/laws.FnPackText", spec := "fnPackText", inPlace := ["math.Float64frombits", "math.Float64bits", "internal/bytealg.IndexByteString"], recurses := true, loops := true, apart := false, narrowed := true }
def FnPackTextUptoSaid : Prop := fnPackTextUptoRow.holds Try.pinned (OpenSpec.upto fnPackTextSpec)

/-- 'laws.FnSlot', WHERE WHAT IT READS IS OF BULK AT MOST 1048576: true; the input reads as it did. -/
def fnSlotUptoRow : OpenClaim := { program := "ytjnookhdiolhgaa", sum := "f36777b6ad598f185460d11ee0717170c5e5cf3987ab6a80ee1a942527712461", func := "pub-telautograph/laws.FnSlot", spec := "fnSlot", inPlace := ["internal/bytealg.IndexByteString", "math.Float64frombits", "math.Float64bits"], recurses := true, apart := false, narrowed := true }
def FnSlotUptoSaid : Prop := fnSlotUptoRow.holds Try.pinned (OpenSpec.upto fnSlotSpec)

/-- 'laws.FnPackLists', WHERE WHAT IT READS IS OF BULK AT MOST 1048576: true; the input reads as it did. -/
def fnPackListsUptoRow : OpenClaim := { program := "ytjnookhdiolhgaa", sum := "f36777b6ad598f185460d11ee0717170c5e5cf3987ab6a80ee1a942527712461", func := "pub-telautograph/laws.FnPackLists", spec := "fnPackLists", inPlace := ["math.Float64frombits", "math.Float64bits", "internal/bytealg.IndexByteString"], recurses := true, apart := false, narrowed := true }
def FnPackListsUptoSaid : Prop := fnPackListsUptoRow.holds Try.pinned (OpenSpec.upto fnPackListsSpec)

/-- 'laws.FnPackMap', WHERE WHAT IT READS IS OF BULK AT MOST 1048576: true; the input reads as it did. -/
def fnPackMapUptoRow : OpenClaim := { program := "ytjnookhdiolhgaa", sum := "f36777b6ad598f185460d11ee0717170c5e5cf3987ab6a80ee1a942527712461", func := "pub-telautograph/laws.FnPackMap", spec := "fnPackMap", inPlace := ["math.Float64frombits", "math.Float64bits", "internal/bytealg.IndexByteString"], recurses := true, apart := false, narrowed := true }
def FnPackMapUptoSaid : Prop := fnPackMapUptoRow.holds Try.pinned (OpenSpec.upto fnPackMapSpec)

/-- 'laws.FnPackTokens', WHERE WHAT IT READS IS OF BULK AT MOST 1048576: true; the input reads as it did. -/
def fnPackTokensUptoRow : OpenClaim := { program := "ytjnookhdiolhgaa", sum := "f36777b6ad598f185460d11ee0717170c5e5cf3987ab6a80ee1a942527712461", func := "pub-telautograph/laws.FnPackTokens", spec := "fnPackTokens", inPlace := ["math.Float64frombits", "math.Float64bits", "internal/bytealg.IndexByteString"], unfollowed := true, recurses := true, apart := false, narrowed := true }
def FnPackTokensUptoSaid : Prop := fnPackTokensUptoRow.holds Try.pinned (OpenSpec.upto fnPackTokensSpec)

/-- 'laws.FnPackCut', WHERE WHAT IT READS IS OF BULK AT MOST 1048576: true; the input reads as it did. -/
def fnPackCutUptoRow : OpenClaim := { program := "ytjnookhdiolhgaa", sum := "f36777b6ad598f185460d11ee0717170c5e5cf3987ab6a80ee1a942527712461", func := "pub-telautograph/laws.FnPackCut", spec := "fnPackCut", inPlace := ["math.Float64frombits", "math.Float64bits", "internal/bytealg.IndexByteString"], unfollowed := true, recurses := true, loops := true, apart := false, narrowed := true }
def FnPackCutUptoSaid : Prop := fnPackCutUptoRow.holds Try.pinned (OpenSpec.upto fnPackCutSpec)

/-- 'laws.FnPackRead', WHERE WHAT IT READS IS OF BULK AT MOST 1048576: true; the input reads as it did. -/
def fnPackReadUptoRow : OpenClaim := { program := "ytjnookhdiolhgaa", sum := "f36777b6ad598f185460d11ee0717170c5e5cf3987ab6a80ee1a942527712461", func := "pub-telautograph/laws.FnPackRead", spec := "fnPackRead", inPlace := ["math.Float64frombits", "math.Float64bits", "internal/bytealg.IndexByteString"], unfollowed := true, recurses := true, apart := false, narrowed := true }
def FnPackReadUptoSaid : Prop := fnPackReadUptoRow.holds Try.pinned (OpenSpec.upto fnPackReadSpec)

/-- 'laws.FnPackBack', WHERE WHAT IT READS IS OF BULK AT MOST 1048576: true; the input reads as it did. -/
def fnPackBackUptoRow : OpenClaim := { program := "ytjnookhdiolhgaa", sum := "f36777b6ad598f185460d11ee0717170c5e5cf3987ab6a80ee1a942527712461", func := "pub-telautograph/laws.FnPackBack", spec := "fnPackBack", inPlace := ["math.Float64frombits", "math.Float64bits", "internal/bytealg.IndexByteString"], unfollowed := true, recurses := true, loops := true, apart := false, narrowed := true }
def FnPackBackUptoSaid : Prop := fnPackBackUptoRow.holds Try.pinned (OpenSpec.upto fnPackBackSpec)

/-- 'laws.FnPackRow', WHERE WHAT IT READS IS OF BULK AT MOST 1048576: true; the input reads as it did. -/
def fnPackRowUptoRow : OpenClaim := { program := "ytjnookhdiolhgaa", sum := "f36777b6ad598f185460d11ee0717170c5e5cf3987ab6a80ee1a942527712461", func := "pub-telautograph/laws.FnPackRow", spec := "fnPackRow", inPlace := ["math.Float64frombits", "math.Float64bits", "internal/bytealg.IndexByteString"], unfollowed := true, recurses := true, loops := true, apart := false, narrowed := true }
def FnPackRowUptoSaid : Prop := fnPackRowUptoRow.holds Try.pinned (OpenSpec.upto fnPackRowSpec)

/-- 'laws.FnPackWide', WHERE WHAT IT READS IS OF BULK AT MOST 1048576: true; the input reads as it did. -/
def fnPackWideUptoRow : OpenClaim := { program := "ytjnookhdiolhgaa", sum := "f36777b6ad598f185460d11ee0717170c5e5cf3987ab6a80ee1a942527712461", func := "pub-telautograph/laws.FnPackWide", spec := "fnPackWide", inPlace := ["math.Float64frombits", "math.Float64bits", "internal/bytealg.IndexByteString"], unfollowed := true, recurses := true, loops := true, apart := false, narrowed := true }
def FnPackWideUptoSaid : Prop := fnPackWideUptoRow.holds Try.pinned (OpenSpec.upto fnPackWideSpec)

/-- 'laws.FnPackNumber', WHERE WHAT IT READS IS OF BULK AT MOST 1048576: true; the input reads as it did. -/
def fnPackNumberUptoRow : OpenClaim := { program := "ytjnookhdiolhgaa", sum := "f36777b6ad598f185460d11ee0717170c5e5cf3987ab6a80ee1a942527712461", func := "pub-telautograph/laws.FnPackNumber", spec := "fnPackNumber", inPlace := ["math.Float32frombits", "math.Float64bits", "math.Float64frombits", "internal/bytealg.IndexByteString"], unfollowed := true, recurses := true, apart := false, narrowed := true }
def FnPackNumberUptoSaid : Prop := fnPackNumberUptoRow.holds Try.pinned (OpenSpec.upto fnPackNumberSpec)

end Rows
end Go.Proofs.Ytjnookhdiolhgaa
