/-
  No cell of these rows narrows 'for every input' (looked for: loops, veiled, ifaces, maps, wideKeys, modest, calm, conditions, laid).
  DERIVED. THE GIVEN ROWS OF THIS SEAT. 12 by the template 'for every input the law returns true; each argument reads behind the call as it read before'; 0 by the template 'total and deterministic' (their statements: YtnggneccdekofaaTotals.lean).
  GIVEN WITH THE SEED: the statements are not yours to turn. If you find one false, say at which input.
  Laid BY PROGRAM, IN A SANDBOX (cutbox-rows.mjs): the forced cells as the released guide's own fill.sh prints them over the translation bc389065854e047f… (all of the seat's roots in one cut). By AI agents, Wed Nov 11 2026. No macro, syntax, notation, axiom, sorry.
-/
import Derived.Test.YtnggneccdekofaaChecked
import GoSem.Claim
import GoSem.ClaimJoined
import GoSem.ClaimMapViews
import Derived.JoinedTies
import Derived.KernelRfl
namespace Go.Proofs.Ytnggneccdekofaa
/- THE CELL 'sum', in the pinned program and in every row, IS THE sha256 OF THE DUMP (.gsa) THAT YtnggneccdekofaaProg.lean LOADS. Nothing in Lean hashes anything: it is a label: what it is worth is what the hold of that sum in a sandbox is worth. -/
noncomputable def Try.pinned : Pinned := { name := "ytnggneccdekofaa", sum := "bc389065854e047f3901f8c0657c3de84b0c507fb3c2a817ae2cea33d2cc85e8", checked := Try.checked }
namespace Rows
def none {H : Type} : Left H := { results := [], args := [] }

/-- 'laws.FnCounted': WHATEVER THE INPUT: true; the input reads as it did. -/
def fnCountedSpec : ChangeSpec := { name := "fnCounted", fn := fun _ => fun
  | [d1, d2, d3, d4, d5] => { results := [.lit (.bool true)], args := [d1, d2, d3, d4, d5] }
  | _ => none }
def fnCountedRow : OpenClaim := { program := "ytnggneccdekofaa", sum := "bc389065854e047f3901f8c0657c3de84b0c507fb3c2a817ae2cea33d2cc85e8", func := "given.example/pub-bosquet/laws.FnCounted", spec := "fnCounted", apart := false }
def FnCountedSaid : Prop := fnCountedRow.holds Try.pinned (OpenSpec.ofChange fnCountedSpec)

/-- ITS FALSE NEIGHBOUR: 'it returns false'. Refute it at one input. -/
def fnCountedWrong : ChangeSpec := { name := "fnCounted", fn := fun _ => fun
  | [d1, d2, d3, d4, d5] => { results := [.lit (.bool false)], args := [d1, d2, d3, d4, d5] }
  | _ => none }
def FnCountedWrongFalsely : Prop := fnCountedRow.holds Try.pinned (OpenSpec.ofChange fnCountedWrong)

/-- 'laws.FnIsNth': WHATEVER THE INPUT: true; the input reads as it did. -/
def fnIsNthSpec : ChangeSpec := { name := "fnIsNth", fn := fun _ => fun
  | [d1, d2, d3, d4, d5] => { results := [.lit (.bool true)], args := [d1, d2, d3, d4, d5] }
  | _ => none }
def fnIsNthRow : OpenClaim := { program := "ytnggneccdekofaa", sum := "bc389065854e047f3901f8c0657c3de84b0c507fb3c2a817ae2cea33d2cc85e8", func := "given.example/pub-bosquet/laws.FnIsNth", spec := "fnIsNth", recurses := true, apart := false }
def FnIsNthSaid : Prop := fnIsNthRow.holds Try.pinned (OpenSpec.ofChange fnIsNthSpec)

/-- ITS FALSE NEIGHBOUR: 'it returns false'. Refute it at one input. -/
def fnIsNthWrong : ChangeSpec := { name := "fnIsNth", fn := fun _ => fun
  | [d1, d2, d3, d4, d5] => { results := [.lit (.bool false)], args := [d1, d2, d3, d4, d5] }
  | _ => none }
def FnIsNthWrongFalsely : Prop := fnIsNthRow.holds Try.pinned (OpenSpec.ofChange fnIsNthWrong)

/-- 'laws.FnIndexOf': WHATEVER THE INPUT: true; the input reads as it did. -/
def fnIndexOfSpec : ChangeSpec := { name := "fnIndexOf", fn := fun _ => fun
  | [d1, d2, d3] => { results := [.lit (.bool true)], args := [d1, d2, d3] }
  | _ => none }
def fnIndexOfRow : OpenClaim := { program := "ytnggneccdekofaa", sum := "bc389065854e047f3901f8c0657c3de84b0c507fb3c2a817ae2cea33d2cc85e8", func := "given.example/pub-bosquet/laws.FnIndexOf", spec := "fnIndexOf", recurses := true, apart := false }
def FnIndexOfSaid : Prop := fnIndexOfRow.holds Try.pinned (OpenSpec.ofChange fnIndexOfSpec)

/-- ITS FALSE NEIGHBOUR: 'it returns false'. Refute it at one input. -/
def fnIndexOfWrong : ChangeSpec := { name := "fnIndexOf", fn := fun _ => fun
  | [d1, d2, d3] => { results := [.lit (.bool false)], args := [d1, d2, d3] }
  | _ => none }
def FnIndexOfWrongFalsely : Prop := fnIndexOfRow.holds Try.pinned (OpenSpec.ofChange fnIndexOfWrong)

/-- 'laws.FnTestAttr': WHATEVER THE INPUT: true; the input reads as it did. -/
def fnTestAttrSpec : ChangeSpec := { name := "fnTestAttr", fn := fun _ => fun
  | [d1, d2, d3, d4] => { results := [.lit (.bool true)], args := [d1, d2, d3, d4] }
  | _ => none }
def fnTestAttrRow : OpenClaim := { program := "ytnggneccdekofaa", sum := "bc389065854e047f3901f8c0657c3de84b0c507fb3c2a817ae2cea33d2cc85e8", func := "given.example/pub-bosquet/laws.FnTestAttr", spec := "fnTestAttr", unfollowed := true, recurses := true, apart := false }
def FnTestAttrSaid : Prop := fnTestAttrRow.holds Try.pinned (OpenSpec.ofChange fnTestAttrSpec)

/-- ITS FALSE NEIGHBOUR: 'it returns false'. Refute it at one input. -/
def fnTestAttrWrong : ChangeSpec := { name := "fnTestAttr", fn := fun _ => fun
  | [d1, d2, d3, d4] => { results := [.lit (.bool false)], args := [d1, d2, d3, d4] }
  | _ => none }
def FnTestAttrWrongFalsely : Prop := fnTestAttrRow.holds Try.pinned (OpenSpec.ofChange fnTestAttrWrong)

/-- 'laws.FnGet': WHATEVER THE INPUT: true; the input reads as it did. -/
def fnGetSpec : ChangeSpec := { name := "fnGet", fn := fun _ => fun
  | [d1, d2, d3] => { results := [.lit (.bool true)], args := [d1, d2, d3] }
  | _ => none }
def fnGetRow : OpenClaim := { program := "ytnggneccdekofaa", sum := "bc389065854e047f3901f8c0657c3de84b0c507fb3c2a817ae2cea33d2cc85e8", func := "given.example/pub-bosquet/laws.FnGet", spec := "fnGet", recurses := true, apart := false }
def FnGetSaid : Prop := fnGetRow.holds Try.pinned (OpenSpec.ofChange fnGetSpec)

/-- ITS FALSE NEIGHBOUR: 'it returns false'. Refute it at one input. -/
def fnGetWrong : ChangeSpec := { name := "fnGet", fn := fun _ => fun
  | [d1, d2, d3] => { results := [.lit (.bool false)], args := [d1, d2, d3] }
  | _ => none }
def FnGetWrongFalsely : Prop := fnGetRow.holds Try.pinned (OpenSpec.ofChange fnGetWrong)

/-- 'laws.FnContains': WHATEVER THE INPUT: true; the input reads as it did. -/
def fnContainsSpec : ChangeSpec := { name := "fnContains", fn := fun _ => fun
  | [d1, d2, d3] => { results := [.lit (.bool true)], args := [d1, d2, d3] }
  | _ => none }
def fnContainsRow : OpenClaim := { program := "ytnggneccdekofaa", sum := "bc389065854e047f3901f8c0657c3de84b0c507fb3c2a817ae2cea33d2cc85e8", func := "given.example/pub-bosquet/laws.FnContains", spec := "fnContains", recurses := true, apart := false }
def FnContainsSaid : Prop := fnContainsRow.holds Try.pinned (OpenSpec.ofChange fnContainsSpec)

/-- ITS FALSE NEIGHBOUR: 'it returns false'. Refute it at one input. -/
def fnContainsWrong : ChangeSpec := { name := "fnContains", fn := fun _ => fun
  | [d1, d2, d3] => { results := [.lit (.bool false)], args := [d1, d2, d3] }
  | _ => none }
def FnContainsWrongFalsely : Prop := fnContainsRow.holds Try.pinned (OpenSpec.ofChange fnContainsWrong)

/-- 'laws.FnEachBreak': WHATEVER THE INPUT: true; the input reads as it did. -/
def fnEachBreakSpec : ChangeSpec := { name := "fnEachBreak", fn := fun _ => fun
  | [d1, d2, d3] => { results := [.lit (.bool true)], args := [d1, d2, d3] }
  | _ => none }
def fnEachBreakRow : OpenClaim := { program := "ytnggneccdekofaa", sum := "bc389065854e047f3901f8c0657c3de84b0c507fb3c2a817ae2cea33d2cc85e8", func := "given.example/pub-bosquet/laws.FnEachBreak", spec := "fnEachBreak", unfollowed := true, recurses := true, apart := false }
def FnEachBreakSaid : Prop := fnEachBreakRow.holds Try.pinned (OpenSpec.ofChange fnEachBreakSpec)

/-- ITS FALSE NEIGHBOUR: 'it returns false'. Refute it at one input. -/
def fnEachBreakWrong : ChangeSpec := { name := "fnEachBreak", fn := fun _ => fun
  | [d1, d2, d3] => { results := [.lit (.bool false)], args := [d1, d2, d3] }
  | _ => none }
def FnEachBreakWrongFalsely : Prop := fnEachBreakRow.holds Try.pinned (OpenSpec.ofChange fnEachBreakWrong)

/-- 'laws.FnIsBy': WHATEVER THE INPUT: true; the input reads as it did. -/
def fnIsBySpec : ChangeSpec := { name := "fnIsBy", fn := fun _ => fun
  | [d1, d2, d3] => { results := [.lit (.bool true)], args := [d1, d2, d3] }
  | _ => none }
def fnIsByRow : OpenClaim := { program := "ytnggneccdekofaa", sum := "bc389065854e047f3901f8c0657c3de84b0c507fb3c2a817ae2cea33d2cc85e8", func := "given.example/pub-bosquet/laws.FnIsBy", spec := "fnIsBy", unfollowed := true, recurses := true, apart := false }
def FnIsBySaid : Prop := fnIsByRow.holds Try.pinned (OpenSpec.ofChange fnIsBySpec)

/-- ITS FALSE NEIGHBOUR: 'it returns false'. Refute it at one input. -/
def fnIsByWrong : ChangeSpec := { name := "fnIsBy", fn := fun _ => fun
  | [d1, d2, d3] => { results := [.lit (.bool false)], args := [d1, d2, d3] }
  | _ => none }
def FnIsByWrongFalsely : Prop := fnIsByRow.holds Try.pinned (OpenSpec.ofChange fnIsByWrong)

/-- 'laws.FnHasOf': WHATEVER THE INPUT: true; the input reads as it did. -/
def fnHasOfSpec : ChangeSpec := { name := "fnHasOf", fn := fun _ => fun
  | [d1, d2, d3] => { results := [.lit (.bool true)], args := [d1, d2, d3] }
  | _ => none }
def fnHasOfRow : OpenClaim := { program := "ytnggneccdekofaa", sum := "bc389065854e047f3901f8c0657c3de84b0c507fb3c2a817ae2cea33d2cc85e8", func := "given.example/pub-bosquet/laws.FnHasOf", spec := "fnHasOf", recurses := true, apart := false }
def FnHasOfSaid : Prop := fnHasOfRow.holds Try.pinned (OpenSpec.ofChange fnHasOfSpec)

/-- ITS FALSE NEIGHBOUR: 'it returns false'. Refute it at one input. -/
def fnHasOfWrong : ChangeSpec := { name := "fnHasOf", fn := fun _ => fun
  | [d1, d2, d3] => { results := [.lit (.bool false)], args := [d1, d2, d3] }
  | _ => none }
def FnHasOfWrongFalsely : Prop := fnHasOfRow.holds Try.pinned (OpenSpec.ofChange fnHasOfWrong)

/-- 'laws.FnTextOf': WHATEVER THE INPUT: true; the input reads as it did. -/
def fnTextOfSpec : ChangeSpec := { name := "fnTextOf", fn := fun _ => fun
  | [d1, d2] => { results := [.lit (.bool true)], args := [d1, d2] }
  | _ => none }
def fnTextOfRow : OpenClaim := { program := "ytnggneccdekofaa", sum := "bc389065854e047f3901f8c0657c3de84b0c507fb3c2a817ae2cea33d2cc85e8", func := "given.example/pub-bosquet/laws.FnTextOf", spec := "fnTextOf", inPlace := ["internal/abi.NoEscape"], recurses := true, apart := false }
def FnTextOfSaid : Prop := fnTextOfRow.holds Try.pinned (OpenSpec.ofChange fnTextOfSpec)

/-- ITS FALSE NEIGHBOUR: 'it returns false'. Refute it at one input. -/
def fnTextOfWrong : ChangeSpec := { name := "fnTextOf", fn := fun _ => fun
  | [d1, d2] => { results := [.lit (.bool false)], args := [d1, d2] }
  | _ => none }
def FnTextOfWrongFalsely : Prop := fnTextOfRow.holds Try.pinned (OpenSpec.ofChange fnTextOfWrong)

/-- 'laws.FnParted': WHATEVER THE INPUT: true; the input reads as it did. -/
def fnPartedSpec : ChangeSpec := { name := "fnParted", fn := fun _ => fun
  | [d1, d2, d3] => { results := [.lit (.bool true)], args := [d1, d2, d3] }
  | _ => none }
def fnPartedRow : OpenClaim := { program := "ytnggneccdekofaa", sum := "bc389065854e047f3901f8c0657c3de84b0c507fb3c2a817ae2cea33d2cc85e8", func := "given.example/pub-bosquet/laws.FnParted", spec := "fnParted", recurses := true, apart := false }
def FnPartedSaid : Prop := fnPartedRow.holds Try.pinned (OpenSpec.ofChange fnPartedSpec)

/-- ITS FALSE NEIGHBOUR: 'it returns false'. Refute it at one input. -/
def fnPartedWrong : ChangeSpec := { name := "fnParted", fn := fun _ => fun
  | [d1, d2, d3] => { results := [.lit (.bool false)], args := [d1, d2, d3] }
  | _ => none }
def FnPartedWrongFalsely : Prop := fnPartedRow.holds Try.pinned (OpenSpec.ofChange fnPartedWrong)

/-- 'laws.FnFindOf': WHATEVER THE INPUT: true; the input reads as it did. -/
def fnFindOfSpec : ChangeSpec := { name := "fnFindOf", fn := fun _ => fun
  | [d1, d2, d3] => { results := [.lit (.bool true)], args := [d1, d2, d3] }
  | _ => none }
def fnFindOfRow : OpenClaim := { program := "ytnggneccdekofaa", sum := "bc389065854e047f3901f8c0657c3de84b0c507fb3c2a817ae2cea33d2cc85e8", func := "given.example/pub-bosquet/laws.FnFindOf", spec := "fnFindOf", unfollowed := true, recurses := true, apart := false }
def FnFindOfSaid : Prop := fnFindOfRow.holds Try.pinned (OpenSpec.ofChange fnFindOfSpec)

/-- ITS FALSE NEIGHBOUR: 'it returns false'. Refute it at one input. -/
def fnFindOfWrong : ChangeSpec := { name := "fnFindOf", fn := fun _ => fun
  | [d1, d2, d3] => { results := [.lit (.bool false)], args := [d1, d2, d3] }
  | _ => none }
def FnFindOfWrongFalsely : Prop := fnFindOfRow.holds Try.pinned (OpenSpec.ofChange fnFindOfWrong)

/- THE SECOND FORM. 'bulk': how many values and letters a reading holds, each counted each time it is reached (what is shared counts as often as it is met; a slice's spare places count too). A statement '..UptoSaid' is the law's where the arguments, and the package variables that the reading takes, are together of bulk at most 1048576: NARROWER than '..Said'. Prove '..Said' where nothing that the law and all that it calls make is longer than what came in: it says more and counts as full. Else prove '..UptoSaid'. A law counts once. -/
mutual
def uptoBulk {H : Type} : DataW H → Nat
  | .lit (.string bytes) => bytes.length + 1
  | .lit _ => 1
  | .nil => 1
  | .ptr d => uptoBulk d + 1
  | .slice elems spare => uptoBulkAll elems + uptoBulkAll spare + 1
  | .agg parts => uptoBulkAll parts + 1
  | .iface _ d => uptoBulk d + 1
  | .map entries => uptoBulkEntries entries + 1
  | .held _ => 1
def uptoBulkAll {H : Type} : List (DataW H) → Nat
  | [] => 0
  | d :: r => uptoBulk d + uptoBulkAll r
def uptoBulkEntries {H : Type} : List (Lit × DataW H) → Nat
  | [] => 0
  | x :: r => uptoBulkEntry x + uptoBulkEntries r
def uptoBulkEntry {H : Type} : Lit × DataW H → Nat
  | (.string bytes, d) => bytes.length + uptoBulk d + 1
  | (_, d) => uptoBulk d + 1
 end
def uptoSmall : (H : Type) → List (DataW H) → Bool := fun _ ds => decide (uptoBulkAll ds ≤ 1048576)
def OpenSpec.upto (s : _root_.Go.ChangeSpec) : _root_.Go.OpenSpec := { _root_.Go.OpenSpec.ofChange s with cond := some uptoSmall }

/-- 'laws.FnCounted', WHERE WHAT IT READS IS OF BULK AT MOST 1048576: true; the input reads as it did. -/
def fnCountedUptoRow : OpenClaim := { program := "ytnggneccdekofaa", sum := "bc389065854e047f3901f8c0657c3de84b0c507fb3c2a817ae2cea33d2cc85e8", func := "given.example/pub-bosquet/laws.FnCounted", spec := "fnCounted", apart := false, narrowed := true }
def FnCountedUptoSaid : Prop := fnCountedUptoRow.holds Try.pinned (OpenSpec.upto fnCountedSpec)

/-- 'laws.FnIsNth', WHERE WHAT IT READS IS OF BULK AT MOST 1048576: true; the input reads as it did. -/
def fnIsNthUptoRow : OpenClaim := { program := "ytnggneccdekofaa", sum := "bc389065854e047f3901f8c0657c3de84b0c507fb3c2a817ae2cea33d2cc85e8", func := "given.example/pub-bosquet/laws.FnIsNth", spec := "fnIsNth", recurses := true, apart := false, narrowed := true }
def FnIsNthUptoSaid : Prop := fnIsNthUptoRow.holds Try.pinned (OpenSpec.upto fnIsNthSpec)

/-- 'laws.FnIndexOf', WHERE WHAT IT READS IS OF BULK AT MOST 1048576: true; the input reads as it did. -/
def fnIndexOfUptoRow : OpenClaim := { program := "ytnggneccdekofaa", sum := "bc389065854e047f3901f8c0657c3de84b0c507fb3c2a817ae2cea33d2cc85e8", func := "given.example/pub-bosquet/laws.FnIndexOf", spec := "fnIndexOf", recurses := true, apart := false, narrowed := true }
def FnIndexOfUptoSaid : Prop := fnIndexOfUptoRow.holds Try.pinned (OpenSpec.upto fnIndexOfSpec)

/-- 'laws.FnTestAttr', WHERE WHAT IT READS IS OF BULK AT MOST 1048576: true; the input reads as it did. -/
def fnTestAttrUptoRow : OpenClaim := { program := "ytnggneccdekofaa", sum := "bc389065854e047f3901f8c0657c3de84b0c507fb3c2a817ae2cea33d2cc85e8", func := "given.example/pub-bosquet/laws.FnTestAttr", spec := "fnTestAttr", unfollowed := true, recurses := true, apart := false, narrowed := true }
def FnTestAttrUptoSaid : Prop := fnTestAttrUptoRow.holds Try.pinned (OpenSpec.upto fnTestAttrSpec)

/-- 'laws.FnGet', WHERE WHAT IT READS IS OF BULK AT MOST 1048576: true; the input reads as it did. -/
def fnGetUptoRow : OpenClaim := { program := "ytnggneccdekofaa", sum := "bc389065854e047f3901f8c0657c3de84b0c507fb3c2a817ae2cea33d2cc85e8", func := "given.example/pub-bosquet/laws.FnGet", spec := "fnGet", recurses := true, apart := false, narrowed := true }
def FnGetUptoSaid : Prop := fnGetUptoRow.holds Try.pinned (OpenSpec.upto fnGetSpec)

/-- 'laws.FnContains', WHERE WHAT IT READS IS OF BULK AT MOST 1048576: true; the input reads as it did. -/
def fnContainsUptoRow : OpenClaim := { program := "ytnggneccdekofaa", sum := "bc389065854e047f3901f8c0657c3de84b0c507fb3c2a817ae2cea33d2cc85e8", func := "given.example/pub-bosquet/laws.FnContains", spec := "fnContains", recurses := true, apart := false, narrowed := true }
def FnContainsUptoSaid : Prop := fnContainsUptoRow.holds Try.pinned (OpenSpec.upto fnContainsSpec)

/-- 'laws.FnEachBreak', WHERE WHAT IT READS IS OF BULK AT MOST 1048576: true; the input reads as it did. -/
def fnEachBreakUptoRow : OpenClaim := { program := "ytnggneccdekofaa", sum := "bc389065854e047f3901f8c0657c3de84b0c507fb3c2a817ae2cea33d2cc85e8", func := "given.example/pub-bosquet/laws.FnEachBreak", spec := "fnEachBreak", unfollowed := true, recurses := true, apart := false, narrowed := true }
def FnEachBreakUptoSaid : Prop := fnEachBreakUptoRow.holds Try.pinned (OpenSpec.upto fnEachBreakSpec)

/-- 'laws.FnIsBy', WHERE WHAT IT READS IS OF BULK AT MOST 1048576: true; the input reads as it did. -/
def fnIsByUptoRow : OpenClaim := { program := "ytnggneccdekofaa", sum := "bc389065854e047f3901f8c0657c3de84b0c507fb3c2a817ae2cea33d2cc85e8", func := "given.example/pub-bosquet/laws.FnIsBy", spec := "fnIsBy", unfollowed := true, recurses := true, apart := false, narrowed := true }
def FnIsByUptoSaid : Prop := fnIsByUptoRow.holds Try.pinned (OpenSpec.upto fnIsBySpec)

/-- 'laws.FnHasOf', WHERE WHAT IT READS IS OF BULK AT MOST 1048576: true; the input reads as it did. -/
def fnHasOfUptoRow : OpenClaim := { program := "ytnggneccdekofaa", sum := "bc389065854e047f3901f8c0657c3de84b0c507fb3c2a817ae2cea33d2cc85e8", func := "given.example/pub-bosquet/laws.FnHasOf", spec := "fnHasOf", recurses := true, apart := false, narrowed := true }
def FnHasOfUptoSaid : Prop := fnHasOfUptoRow.holds Try.pinned (OpenSpec.upto fnHasOfSpec)

/-- 'laws.FnTextOf', WHERE WHAT IT READS IS OF BULK AT MOST 1048576: true; the input reads as it did. -/
def fnTextOfUptoRow : OpenClaim := { program := "ytnggneccdekofaa", sum := "bc389065854e047f3901f8c0657c3de84b0c507fb3c2a817ae2cea33d2cc85e8", func := "given.example/pub-bosquet/laws.FnTextOf", spec := "fnTextOf", inPlace := ["internal/abi.NoEscape"], recurses := true, apart := false, narrowed := true }
def FnTextOfUptoSaid : Prop := fnTextOfUptoRow.holds Try.pinned (OpenSpec.upto fnTextOfSpec)

/-- 'laws.FnParted', WHERE WHAT IT READS IS OF BULK AT MOST 1048576: true; the input reads as it did. -/
def fnPartedUptoRow : OpenClaim := { program := "ytnggneccdekofaa", sum := "bc389065854e047f3901f8c0657c3de84b0c507fb3c2a817ae2cea33d2cc85e8", func := "given.example/pub-bosquet/laws.FnParted", spec := "fnParted", recurses := true, apart := false, narrowed := true }
def FnPartedUptoSaid : Prop := fnPartedUptoRow.holds Try.pinned (OpenSpec.upto fnPartedSpec)

/-- 'laws.FnFindOf', WHERE WHAT IT READS IS OF BULK AT MOST 1048576: true; the input reads as it did. -/
def fnFindOfUptoRow : OpenClaim := { program := "ytnggneccdekofaa", sum := "bc389065854e047f3901f8c0657c3de84b0c507fb3c2a817ae2cea33d2cc85e8", func := "given.example/pub-bosquet/laws.FnFindOf", spec := "fnFindOf", unfollowed := true, recurses := true, apart := false, narrowed := true }
def FnFindOfUptoSaid : Prop := fnFindOfUptoRow.holds Try.pinned (OpenSpec.upto fnFindOfSpec)

end Rows
end Go.Proofs.Ytnggneccdekofaa
