/-
  No cell of these rows narrows 'for every input' (looked for: loops, veiled, ifaces, maps, wideKeys, modest, calm, conditions, laid).
  DERIVED. THE GIVEN ROWS OF THIS SEAT. 10 by the template 'for every input the law returns true; each argument reads behind the call as it read before'; 0 by the template 'total and deterministic' (their statements: YtfmlpodcldhgdaaTotals.lean).
  GIVEN WITH THE SEED: the statements are not yours to turn. If you find one false, say at which input.
  Laid BY PROGRAM, IN A SANDBOX (cutbox-rows.mjs): the forced cells as the released guide's own fill.sh prints them over the translation 87b3739bc1be9e48… (all of the seat's roots in one cut). By AI agents, Wed Nov 11 2026. No macro, syntax, notation, axiom, sorry.
-/
import Derived.Test.YtfmlpodcldhgdaaChecked
import GoSem.Claim
import GoSem.ClaimJoined
import GoSem.ClaimMapViews
import Derived.JoinedTies
import Derived.KernelRfl
namespace Go.Proofs.Ytfmlpodcldhgdaa
/- THE CELL 'sum', in the pinned program and in every row, IS THE sha256 OF THE DUMP (.gsa) THAT YtfmlpodcldhgdaaProg.lean LOADS. Nothing in Lean hashes anything: it is a label: what it is worth is what the hold of that sum in a sandbox is worth. -/
noncomputable def Try.pinned : Pinned := { name := "ytfmlpodcldhgdaa", sum := "87b3739bc1be9e4837cc744e7f7f373c1cabe95b5f72cb338aca7690160e91a9", checked := Try.checked }
namespace Rows
def none {H : Type} : Left H := { results := [], args := [] }

/-- 'laws.FnTextOf': WHATEVER THE INPUT: true; the input reads as it did. -/
def fnTextOfSpec : ChangeSpec := { name := "fnTextOf", fn := fun _ => fun
  | [d1, d2] => { results := [.lit (.bool true)], args := [d1, d2] }
  | _ => none }
def fnTextOfRow : OpenClaim := { program := "ytfmlpodcldhgdaa", sum := "87b3739bc1be9e4837cc744e7f7f373c1cabe95b5f72cb338aca7690160e91a9", func := "given.example/pub-bosquet/laws.FnTextOf", spec := "fnTextOf", inPlace := ["internal/abi.NoEscape"], recurses := true, apart := false }
def FnTextOfSaid : Prop := fnTextOfRow.holds Try.pinned (OpenSpec.ofChange fnTextOfSpec)

/-- ITS FALSE NEIGHBOUR: 'it returns false'. Refute it at one input. -/
def fnTextOfWrong : ChangeSpec := { name := "fnTextOf", fn := fun _ => fun
  | [d1, d2] => { results := [.lit (.bool false)], args := [d1, d2] }
  | _ => none }
def FnTextOfWrongFalsely : Prop := fnTextOfRow.holds Try.pinned (OpenSpec.ofChange fnTextOfWrong)

/-- 'laws.FnCloned': WHATEVER THE INPUT: true; the input reads as it did. -/
def fnClonedSpec : ChangeSpec := { name := "fnCloned", fn := fun _ => fun
  | [d1, d2] => { results := [.lit (.bool true)], args := [d1, d2] }
  | _ => none }
def fnClonedRow : OpenClaim := { program := "ytfmlpodcldhgdaa", sum := "87b3739bc1be9e4837cc744e7f7f373c1cabe95b5f72cb338aca7690160e91a9", func := "given.example/pub-bosquet/laws.FnCloned", spec := "fnCloned", recurses := true, apart := false }
def FnClonedSaid : Prop := fnClonedRow.holds Try.pinned (OpenSpec.ofChange fnClonedSpec)

/-- ITS FALSE NEIGHBOUR: 'it returns false'. Refute it at one input. -/
def fnClonedWrong : ChangeSpec := { name := "fnCloned", fn := fun _ => fun
  | [d1, d2] => { results := [.lit (.bool false)], args := [d1, d2] }
  | _ => none }
def FnClonedWrongFalsely : Prop := fnClonedRow.holds Try.pinned (OpenSpec.ofChange fnClonedWrong)

/-- 'laws.FnCopies': WHATEVER THE INPUT: true; the input reads as it did. -/
def fnCopiesSpec : ChangeSpec := { name := "fnCopies", fn := fun _ => fun
  | [d1, d2, d3] => { results := [.lit (.bool true)], args := [d1, d2, d3] }
  | _ => none }
def fnCopiesRow : OpenClaim := { program := "ytfmlpodcldhgdaa", sum := "87b3739bc1be9e4837cc744e7f7f373c1cabe95b5f72cb338aca7690160e91a9", func := "given.example/pub-bosquet/laws.FnCopies", spec := "fnCopies", unfollowed := true, recurses := true, apart := false }
def FnCopiesSaid : Prop := fnCopiesRow.holds Try.pinned (OpenSpec.ofChange fnCopiesSpec)

/-- ITS FALSE NEIGHBOUR: 'it returns false'. Refute it at one input. -/
def fnCopiesWrong : ChangeSpec := { name := "fnCopies", fn := fun _ => fun
  | [d1, d2, d3] => { results := [.lit (.bool false)], args := [d1, d2, d3] }
  | _ => none }
def FnCopiesWrongFalsely : Prop := fnCopiesRow.holds Try.pinned (OpenSpec.ofChange fnCopiesWrong)

/-- 'laws.FnInsertedAfter': WHATEVER THE INPUT: true; the input reads as it did. -/
def fnInsertedAfterSpec : ChangeSpec := { name := "fnInsertedAfter", fn := fun _ => fun
  | [d1, d2, d3] => { results := [.lit (.bool true)], args := [d1, d2, d3] }
  | _ => none }
def fnInsertedAfterRow : OpenClaim := { program := "ytfmlpodcldhgdaa", sum := "87b3739bc1be9e4837cc744e7f7f373c1cabe95b5f72cb338aca7690160e91a9", func := "given.example/pub-bosquet/laws.FnInsertedAfter", spec := "fnInsertedAfter", unfollowed := true, recurses := true, apart := false }
def FnInsertedAfterSaid : Prop := fnInsertedAfterRow.holds Try.pinned (OpenSpec.ofChange fnInsertedAfterSpec)

/-- ITS FALSE NEIGHBOUR: 'it returns false'. Refute it at one input. -/
def fnInsertedAfterWrong : ChangeSpec := { name := "fnInsertedAfter", fn := fun _ => fun
  | [d1, d2, d3] => { results := [.lit (.bool false)], args := [d1, d2, d3] }
  | _ => none }
def FnInsertedAfterWrongFalsely : Prop := fnInsertedAfterRow.holds Try.pinned (OpenSpec.ofChange fnInsertedAfterWrong)

/-- 'laws.FnPrependMoves': WHATEVER THE INPUT: true; the input reads as it did. -/
def fnPrependMovesSpec : ChangeSpec := { name := "fnPrependMoves", fn := fun _ => fun
  | [d1, d2, d3] => { results := [.lit (.bool true)], args := [d1, d2, d3] }
  | _ => none }
def fnPrependMovesRow : OpenClaim := { program := "ytfmlpodcldhgdaa", sum := "87b3739bc1be9e4837cc744e7f7f373c1cabe95b5f72cb338aca7690160e91a9", func := "given.example/pub-bosquet/laws.FnPrependMoves", spec := "fnPrependMoves", unfollowed := true, recurses := true, apart := false }
def FnPrependMovesSaid : Prop := fnPrependMovesRow.holds Try.pinned (OpenSpec.ofChange fnPrependMovesSpec)

/-- ITS FALSE NEIGHBOUR: 'it returns false'. Refute it at one input. -/
def fnPrependMovesWrong : ChangeSpec := { name := "fnPrependMoves", fn := fun _ => fun
  | [d1, d2, d3] => { results := [.lit (.bool false)], args := [d1, d2, d3] }
  | _ => none }
def FnPrependMovesWrongFalsely : Prop := fnPrependMovesRow.holds Try.pinned (OpenSpec.ofChange fnPrependMovesWrong)

/-- 'laws.FnPrependOf': WHATEVER THE INPUT: true; the input reads as it did. -/
def fnPrependOfSpec : ChangeSpec := { name := "fnPrependOf", fn := fun _ => fun
  | [d1, d2, d3] => { results := [.lit (.bool true)], args := [d1, d2, d3] }
  | _ => none }
def fnPrependOfRow : OpenClaim := { program := "ytfmlpodcldhgdaa", sum := "87b3739bc1be9e4837cc744e7f7f373c1cabe95b5f72cb338aca7690160e91a9", func := "given.example/pub-bosquet/laws.FnPrependOf", spec := "fnPrependOf", unfollowed := true, recurses := true, apart := false }
def FnPrependOfSaid : Prop := fnPrependOfRow.holds Try.pinned (OpenSpec.ofChange fnPrependOfSpec)

/-- ITS FALSE NEIGHBOUR: 'it returns false'. Refute it at one input. -/
def fnPrependOfWrong : ChangeSpec := { name := "fnPrependOf", fn := fun _ => fun
  | [d1, d2, d3] => { results := [.lit (.bool false)], args := [d1, d2, d3] }
  | _ => none }
def FnPrependOfWrongFalsely : Prop := fnPrependOfRow.holds Try.pinned (OpenSpec.ofChange fnPrependOfWrong)

/-- 'laws.FnReplaceOf': WHATEVER THE INPUT: true; the input reads as it did. -/
def fnReplaceOfSpec : ChangeSpec := { name := "fnReplaceOf", fn := fun _ => fun
  | [d1, d2, d3] => { results := [.lit (.bool true)], args := [d1, d2, d3] }
  | _ => none }
def fnReplaceOfRow : OpenClaim := { program := "ytfmlpodcldhgdaa", sum := "87b3739bc1be9e4837cc744e7f7f373c1cabe95b5f72cb338aca7690160e91a9", func := "given.example/pub-bosquet/laws.FnReplaceOf", spec := "fnReplaceOf", unfollowed := true, recurses := true, apart := false }
def FnReplaceOfSaid : Prop := fnReplaceOfRow.holds Try.pinned (OpenSpec.ofChange fnReplaceOfSpec)

/-- ITS FALSE NEIGHBOUR: 'it returns false'. Refute it at one input. -/
def fnReplaceOfWrong : ChangeSpec := { name := "fnReplaceOf", fn := fun _ => fun
  | [d1, d2, d3] => { results := [.lit (.bool false)], args := [d1, d2, d3] }
  | _ => none }
def FnReplaceOfWrongFalsely : Prop := fnReplaceOfRow.holds Try.pinned (OpenSpec.ofChange fnReplaceOfWrong)

/-- 'laws.FnReplaced': WHATEVER THE INPUT: true; the input reads as it did. -/
def fnReplacedSpec : ChangeSpec := { name := "fnReplaced", fn := fun _ => fun
  | [d1, d2, d3] => { results := [.lit (.bool true)], args := [d1, d2, d3] }
  | _ => none }
def fnReplacedRow : OpenClaim := { program := "ytfmlpodcldhgdaa", sum := "87b3739bc1be9e4837cc744e7f7f373c1cabe95b5f72cb338aca7690160e91a9", func := "given.example/pub-bosquet/laws.FnReplaced", spec := "fnReplaced", unfollowed := true, recurses := true, apart := false }
def FnReplacedSaid : Prop := fnReplacedRow.holds Try.pinned (OpenSpec.ofChange fnReplacedSpec)

/-- ITS FALSE NEIGHBOUR: 'it returns false'. Refute it at one input. -/
def fnReplacedWrong : ChangeSpec := { name := "fnReplaced", fn := fun _ => fun
  | [d1, d2, d3] => { results := [.lit (.bool false)], args := [d1, d2, d3] }
  | _ => none }
def FnReplacedWrongFalsely : Prop := fnReplacedRow.holds Try.pinned (OpenSpec.ofChange fnReplacedWrong)

/-- 'laws.FnUnwrapOf': WHATEVER THE INPUT: true; the input reads as it did. -/
def fnUnwrapOfSpec : ChangeSpec := { name := "fnUnwrapOf", fn := fun _ => fun
  | [d1, d2] => { results := [.lit (.bool true)], args := [d1, d2] }
  | _ => none }
def fnUnwrapOfRow : OpenClaim := { program := "ytfmlpodcldhgdaa", sum := "87b3739bc1be9e4837cc744e7f7f373c1cabe95b5f72cb338aca7690160e91a9", func := "given.example/pub-bosquet/laws.FnUnwrapOf", spec := "fnUnwrapOf", unfollowed := true, recurses := true, apart := false }
def FnUnwrapOfSaid : Prop := fnUnwrapOfRow.holds Try.pinned (OpenSpec.ofChange fnUnwrapOfSpec)

/-- ITS FALSE NEIGHBOUR: 'it returns false'. Refute it at one input. -/
def fnUnwrapOfWrong : ChangeSpec := { name := "fnUnwrapOf", fn := fun _ => fun
  | [d1, d2] => { results := [.lit (.bool false)], args := [d1, d2] }
  | _ => none }
def FnUnwrapOfWrongFalsely : Prop := fnUnwrapOfRow.holds Try.pinned (OpenSpec.ofChange fnUnwrapOfWrong)

/-- 'laws.FnWrapInnerOf': WHATEVER THE INPUT: true; the input reads as it did. -/
def fnWrapInnerOfSpec : ChangeSpec := { name := "fnWrapInnerOf", fn := fun _ => fun
  | [d1, d2, d3] => { results := [.lit (.bool true)], args := [d1, d2, d3] }
  | _ => none }
def fnWrapInnerOfRow : OpenClaim := { program := "ytfmlpodcldhgdaa", sum := "87b3739bc1be9e4837cc744e7f7f373c1cabe95b5f72cb338aca7690160e91a9", func := "given.example/pub-bosquet/laws.FnWrapInnerOf", spec := "fnWrapInnerOf", unfollowed := true, recurses := true, apart := false }
def FnWrapInnerOfSaid : Prop := fnWrapInnerOfRow.holds Try.pinned (OpenSpec.ofChange fnWrapInnerOfSpec)

/-- ITS FALSE NEIGHBOUR: 'it returns false'. Refute it at one input. -/
def fnWrapInnerOfWrong : ChangeSpec := { name := "fnWrapInnerOf", fn := fun _ => fun
  | [d1, d2, d3] => { results := [.lit (.bool false)], args := [d1, d2, d3] }
  | _ => none }
def FnWrapInnerOfWrongFalsely : Prop := fnWrapInnerOfRow.holds Try.pinned (OpenSpec.ofChange fnWrapInnerOfWrong)

/- THE SECOND FORM. 'bulk': how many values and letters a reading holds, each counted each time it is reached (what is shared counts as often as it is met; a slice's spare places count too). A statement '..UptoSaid' is the law's where the arguments, and the package variables that the reading takes, are together of bulk at most 1048576: NARROWER than '..Said'. Prove '..Said' where nothing that the law and all that it calls make is longer than what came in: it says more and counts as full. Else prove '..UptoSaid'. A law counts once. -/
mutual
def uptoBulk {H : Type} : DataW H → Nat
  | .lit (.string bytes) => bytes.length + 1
  | .lit _ => 1
  | .nil => 1
  | .ptr d => uptoBulk d + 1
  | .slice elems spare => uptoBulkAll elems + uptoBulkAll spare + 1
  | .agg parts => uptoBulkAll parts + 1
  | .iface _ d => uptoBulk d + 1
  | .map entries => uptoBulkEntries entries + 1
  | .held _ => 1
def uptoBulkAll {H : Type} : List (DataW H) → Nat
  | [] => 0
  | d :: r => uptoBulk d + uptoBulkAll r
def uptoBulkEntries {H : Type} : List (Lit × DataW H) → Nat
  | [] => 0
  | x :: r => uptoBulkEntry x + uptoBulkEntries r
def uptoBulkEntry {H : Type} : Lit × DataW H → Nat
  | (.string bytes, d) => bytes.length + uptoBulk d + 1
  | (_, d) => uptoBulk d + 1
 end
def uptoSmall : (H : Type) → List (DataW H) → Bool := fun _ ds => decide (uptoBulkAll ds ≤ 1048576)
def OpenSpec.upto (s : _root_.Go.ChangeSpec) : _root_.Go.OpenSpec := { _root_.Go.OpenSpec.ofChange s with cond := some uptoSmall }

/-- 'laws.FnTextOf', WHERE WHAT IT READS IS OF BULK AT MOST 1048576: true; the input reads as it did. -/
def fnTextOfUptoRow : OpenClaim := { program := "ytfmlpodcldhgdaa", sum := "87b3739bc1be9e4837cc744e7f7f373c1cabe95b5f72cb338aca7690160e91a9", func := "given.example/pub-bosquet/laws.FnTextOf", spec := "fnTextOf", inPlace := ["internal/abi.NoEscape"], recurses := true, apart := false, narrowed := true }
def FnTextOfUptoSaid : Prop := fnTextOfUptoRow.holds Try.pinned (OpenSpec.upto fnTextOfSpec)

/-- 'laws.FnCloned', WHERE WHAT IT READS IS OF BULK AT MOST 1048576: true; the input reads as it did. -/
def fnClonedUptoRow : OpenClaim := { program := "ytfmlpodcldhgdaa", sum := "87b3739bc1be9e4837cc744e7f7f373c1cabe95b5f72cb338aca7690160e91a9", func := "given.example/pub-bosquet/laws.FnCloned", spec := "fnCloned", recurses := true, apart := false, narrowed := true }
def FnClonedUptoSaid : Prop := fnClonedUptoRow.holds Try.pinned (OpenSpec.upto fnClonedSpec)

/-- 'laws.FnCopies', WHERE WHAT IT READS IS OF BULK AT MOST 1048576: true; the input reads as it did. -/
def fnCopiesUptoRow : OpenClaim := { program := "ytfmlpodcldhgdaa", sum := "87b3739bc1be9e4837cc744e7f7f373c1cabe95b5f72cb338aca7690160e91a9", func := "given.example/pub-bosquet/laws.FnCopies", spec := "fnCopies", unfollowed := true, recurses := true, apart := false, narrowed := true }
def FnCopiesUptoSaid : Prop := fnCopiesUptoRow.holds Try.pinned (OpenSpec.upto fnCopiesSpec)

/-- 'laws.FnInsertedAfter', WHERE WHAT IT READS IS OF BULK AT MOST 1048576: true; the input reads as it did. -/
def fnInsertedAfterUptoRow : OpenClaim := { program := "ytfmlpodcldhgdaa", sum := "87b3739bc1be9e4837cc744e7f7f373c1cabe95b5f72cb338aca7690160e91a9", func := "given.example/pub-bosquet/laws.FnInsertedAfter", spec := "fnInsertedAfter", unfollowed := true, recurses := true, apart := false, narrowed := true }
def FnInsertedAfterUptoSaid : Prop := fnInsertedAfterUptoRow.holds Try.pinned (OpenSpec.upto fnInsertedAfterSpec)

/-- 'laws.FnPrependMoves', WHERE WHAT IT READS IS OF BULK AT MOST 1048576: true; the input reads as it did. -/
def fnPrependMovesUptoRow : OpenClaim := { program := "ytfmlpodcldhgdaa", sum := "87b3739bc1be9e4837cc744e7f7f373c1cabe95b5f72cb338aca7690160e91a9", func := "given.example/pub-bosquet/laws.FnPrependMoves", spec := "fnPrependMoves", unfollowed := true, recurses := true, apart := false, narrowed := true }
def FnPrependMovesUptoSaid : Prop := fnPrependMovesUptoRow.holds Try.pinned (OpenSpec.upto fnPrependMovesSpec)

/-- 'laws.FnPrependOf', WHERE WHAT IT READS IS OF BULK AT MOST 1048576: true; the input reads as it did. -/
def fnPrependOfUptoRow : OpenClaim := { program := "ytfmlpodcldhgdaa", sum := "87b3739bc1be9e4837cc744e7f7f373c1cabe95b5f72cb338aca7690160e91a9", func := "given.example/pub-bosquet/laws.FnPrependOf", spec := "fnPrependOf", unfollowed := true, recurses := true, apart := false, narrowed := true }
def FnPrependOfUptoSaid : Prop := fnPrependOfUptoRow.holds Try.pinned (OpenSpec.upto fnPrependOfSpec)

/-- 'laws.FnReplaceOf', WHERE WHAT IT READS IS OF BULK AT MOST 1048576: true; the input reads as it did. -/
def fnReplaceOfUptoRow : OpenClaim := { program := "ytfmlpodcldhgdaa", sum := "87b3739bc1be9e4837cc744e7f7f373c1cabe95b5f72cb338aca7690160e91a9", func := "given.example/pub-bosquet/laws.FnReplaceOf", spec := "fnReplaceOf", unfollowed := true, recurses := true, apart := false, narrowed := true }
def FnReplaceOfUptoSaid : Prop := fnReplaceOfUptoRow.holds Try.pinned (OpenSpec.upto fnReplaceOfSpec)

/-- 'laws.FnReplaced', WHERE WHAT IT READS IS OF BULK AT MOST 1048576: true; the input reads as it did. -/
def fnReplacedUptoRow : OpenClaim := { program := "ytfmlpodcldhgdaa", sum := "87b3739bc1be9e4837cc744e7f7f373c1cabe95b5f72cb338aca7690160e91a9", func := "given.example/pub-bosquet/laws.FnReplaced", spec := "fnReplaced", unfollowed := true, recurses := true, apart := false, narrowed := true }
def FnReplacedUptoSaid : Prop := fnReplacedUptoRow.holds Try.pinned (OpenSpec.upto fnReplacedSpec)

/-- 'laws.FnUnwrapOf', WHERE WHAT IT READS IS OF BULK AT MOST 1048576: true; the input reads as it did. -/
def fnUnwrapOfUptoRow : OpenClaim := { program := "ytfmlpodcldhgdaa", sum := "87b3739bc1be9e4837cc744e7f7f373c1cabe95b5f72cb338aca7690160e91a9", func := "given.example/pub-bosquet/laws.FnUnwrapOf", spec := "fnUnwrapOf", unfollowed := true, recurses := true, apart := false, narrowed := true }
def FnUnwrapOfUptoSaid : Prop := fnUnwrapOfUptoRow.holds Try.pinned (OpenSpec.upto fnUnwrapOfSpec)

/-- 'laws.FnWrapInnerOf', WHERE WHAT IT READS IS OF BULK AT MOST 1048576: true; the input reads as it did. -/
def fnWrapInnerOfUptoRow : OpenClaim := { program := "ytfmlpodcldhgdaa", sum := "87b3739bc1be9e4837cc744e7f7f373c1cabe95b5f72cb338aca7690160e91a9", func := "given.example/pub-bosquet/laws.FnWrapInnerOf", spec := "fnWrapInnerOf", unfollowed := true, recurses := true, apart := false, narrowed := true }
def FnWrapInnerOfUptoSaid : Prop := fnWrapInnerOfUptoRow.holds Try.pinned (OpenSpec.upto fnWrapInnerOfSpec)

end Rows
end Go.Proofs.Ytfmlpodcldhgdaa
