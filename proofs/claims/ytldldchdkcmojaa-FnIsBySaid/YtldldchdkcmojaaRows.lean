/-
  No cell of these rows narrows 'for every input' (looked for: loops, veiled, ifaces, maps, wideKeys, modest, calm, conditions, laid).
  DERIVED. THE GIVEN ROWS OF THIS SEAT. 6 by the template 'for every input the law returns true; each argument reads behind the call as it read before'; 0 by the template 'total and deterministic' (their statements: YtldldchdkcmojaaTotals.lean).
  GIVEN WITH THE SEED: the statements are not yours to turn. If you find one false, say at which input.
  Laid BY PROGRAM, IN A SANDBOX (cutbox-rows.mjs): the forced cells as the released guide's own fill.sh prints them over the translation 8a83ed900597f6f6… (all of the seat's roots in one cut). By AI agents, Wed Nov 11 2026. No macro, syntax, notation, axiom, sorry.
-/
import Derived.Test.YtldldchdkcmojaaChecked
import GoSem.Claim
import GoSem.ClaimJoined
import GoSem.ClaimMapViews
import Derived.JoinedTies
import Derived.KernelRfl
namespace Go.Proofs.Ytldldchdkcmojaa
/- THE CELL 'sum', in the pinned program and in every row, IS THE sha256 OF THE DUMP (.gsa) THAT YtldldchdkcmojaaProg.lean LOADS. Nothing in Lean hashes anything: it is a label: what it is worth is what the hold of that sum in a sandbox is worth. -/
noncomputable def Try.pinned : Pinned := { name := "ytldldchdkcmojaa", sum := "8a83ed900597f6f63d529ae90461b2cef82570dedeeb142cdae782adbc42dbcf", checked := Try.checked }
namespace Rows
def none {H : Type} : Left H := { results := [], args := [] }

/-- 'laws.FnIsClass': WHATEVER THE INPUT: true; the input reads as it did. -/
def fnIsClassSpec : ChangeSpec := { name := "fnIsClass", fn := fun _ => fun
  | [d1, d2, d3] => { results := [.lit (.bool true)], args := [d1, d2, d3] }
  | _ => none }
def fnIsClassRow : OpenClaim := { program := "ytldldchdkcmojaa", sum := "8a83ed900597f6f63d529ae90461b2cef82570dedeeb142cdae782adbc42dbcf", func := "given.example/pub-bosquet/laws.FnIsClass", spec := "fnIsClass", unfollowed := true, recurses := true, apart := false }
def FnIsClassSaid : Prop := fnIsClassRow.holds Try.pinned (OpenSpec.ofChange fnIsClassSpec)

/-- ITS FALSE NEIGHBOUR: 'it returns false'. Refute it at one input. -/
def fnIsClassWrong : ChangeSpec := { name := "fnIsClass", fn := fun _ => fun
  | [d1, d2, d3] => { results := [.lit (.bool false)], args := [d1, d2, d3] }
  | _ => none }
def FnIsClassWrongFalsely : Prop := fnIsClassRow.holds Try.pinned (OpenSpec.ofChange fnIsClassWrong)

/-- 'laws.FnTestAttr': WHATEVER THE INPUT: true; the input reads as it did. -/
def fnTestAttrSpec : ChangeSpec := { name := "fnTestAttr", fn := fun _ => fun
  | [d1, d2, d3, d4] => { results := [.lit (.bool true)], args := [d1, d2, d3, d4] }
  | _ => none }
def fnTestAttrRow : OpenClaim := { program := "ytldldchdkcmojaa", sum := "8a83ed900597f6f63d529ae90461b2cef82570dedeeb142cdae782adbc42dbcf", func := "given.example/pub-bosquet/laws.FnTestAttr", spec := "fnTestAttr", unfollowed := true, recurses := true, apart := false }
def FnTestAttrSaid : Prop := fnTestAttrRow.holds Try.pinned (OpenSpec.ofChange fnTestAttrSpec)

/-- ITS FALSE NEIGHBOUR: 'it returns false'. Refute it at one input. -/
def fnTestAttrWrong : ChangeSpec := { name := "fnTestAttr", fn := fun _ => fun
  | [d1, d2, d3, d4] => { results := [.lit (.bool false)], args := [d1, d2, d3, d4] }
  | _ => none }
def FnTestAttrWrongFalsely : Prop := fnTestAttrRow.holds Try.pinned (OpenSpec.ofChange fnTestAttrWrong)

/-- 'laws.FnEachBreak': WHATEVER THE INPUT: true; the input reads as it did. -/
def fnEachBreakSpec : ChangeSpec := { name := "fnEachBreak", fn := fun _ => fun
  | [d1, d2, d3] => { results := [.lit (.bool true)], args := [d1, d2, d3] }
  | _ => none }
def fnEachBreakRow : OpenClaim := { program := "ytldldchdkcmojaa", sum := "8a83ed900597f6f63d529ae90461b2cef82570dedeeb142cdae782adbc42dbcf", func := "given.example/pub-bosquet/laws.FnEachBreak", spec := "fnEachBreak", unfollowed := true, recurses := true, apart := false }
def FnEachBreakSaid : Prop := fnEachBreakRow.holds Try.pinned (OpenSpec.ofChange fnEachBreakSpec)

/-- ITS FALSE NEIGHBOUR: 'it returns false'. Refute it at one input. -/
def fnEachBreakWrong : ChangeSpec := { name := "fnEachBreak", fn := fun _ => fun
  | [d1, d2, d3] => { results := [.lit (.bool false)], args := [d1, d2, d3] }
  | _ => none }
def FnEachBreakWrongFalsely : Prop := fnEachBreakRow.holds Try.pinned (OpenSpec.ofChange fnEachBreakWrong)

/-- 'laws.FnIsBy': WHATEVER THE INPUT: true; the input reads as it did. -/
def fnIsBySpec : ChangeSpec := { name := "fnIsBy", fn := fun _ => fun
  | [d1, d2, d3] => { results := [.lit (.bool true)], args := [d1, d2, d3] }
  | _ => none }
def fnIsByRow : OpenClaim := { program := "ytldldchdkcmojaa", sum := "8a83ed900597f6f63d529ae90461b2cef82570dedeeb142cdae782adbc42dbcf", func := "given.example/pub-bosquet/laws.FnIsBy", spec := "fnIsBy", unfollowed := true, recurses := true, apart := false }
def FnIsBySaid : Prop := fnIsByRow.holds Try.pinned (OpenSpec.ofChange fnIsBySpec)

/-- ITS FALSE NEIGHBOUR: 'it returns false'. Refute it at one input. -/
def fnIsByWrong : ChangeSpec := { name := "fnIsBy", fn := fun _ => fun
  | [d1, d2, d3] => { results := [.lit (.bool false)], args := [d1, d2, d3] }
  | _ => none }
def FnIsByWrongFalsely : Prop := fnIsByRow.holds Try.pinned (OpenSpec.ofChange fnIsByWrong)

/-- 'laws.FnTextOf': WHATEVER THE INPUT: true; the input reads as it did. -/
def fnTextOfSpec : ChangeSpec := { name := "fnTextOf", fn := fun _ => fun
  | [d1, d2] => { results := [.lit (.bool true)], args := [d1, d2] }
  | _ => none }
def fnTextOfRow : OpenClaim := { program := "ytldldchdkcmojaa", sum := "8a83ed900597f6f63d529ae90461b2cef82570dedeeb142cdae782adbc42dbcf", func := "given.example/pub-bosquet/laws.FnTextOf", spec := "fnTextOf", inPlace := ["internal/abi.NoEscape"], recurses := true, apart := false }
def FnTextOfSaid : Prop := fnTextOfRow.holds Try.pinned (OpenSpec.ofChange fnTextOfSpec)

/-- ITS FALSE NEIGHBOUR: 'it returns false'. Refute it at one input. -/
def fnTextOfWrong : ChangeSpec := { name := "fnTextOf", fn := fun _ => fun
  | [d1, d2] => { results := [.lit (.bool false)], args := [d1, d2] }
  | _ => none }
def FnTextOfWrongFalsely : Prop := fnTextOfRow.holds Try.pinned (OpenSpec.ofChange fnTextOfWrong)

/-- 'laws.FnCloned': WHATEVER THE INPUT: true; the input reads as it did. -/
def fnClonedSpec : ChangeSpec := { name := "fnCloned", fn := fun _ => fun
  | [d1, d2] => { results := [.lit (.bool true)], args := [d1, d2] }
  | _ => none }
def fnClonedRow : OpenClaim := { program := "ytldldchdkcmojaa", sum := "8a83ed900597f6f63d529ae90461b2cef82570dedeeb142cdae782adbc42dbcf", func := "given.example/pub-bosquet/laws.FnCloned", spec := "fnCloned", recurses := true, apart := false }
def FnClonedSaid : Prop := fnClonedRow.holds Try.pinned (OpenSpec.ofChange fnClonedSpec)

/-- ITS FALSE NEIGHBOUR: 'it returns false'. Refute it at one input. -/
def fnClonedWrong : ChangeSpec := { name := "fnCloned", fn := fun _ => fun
  | [d1, d2] => { results := [.lit (.bool false)], args := [d1, d2] }
  | _ => none }
def FnClonedWrongFalsely : Prop := fnClonedRow.holds Try.pinned (OpenSpec.ofChange fnClonedWrong)

/- THE SECOND FORM. 'bulk': how many values and letters a reading holds, each counted each time it is reached (what is shared counts as often as it is met; a slice's spare places count too). A statement '..UptoSaid' is the law's where the arguments, and the package variables that the reading takes, are together of bulk at most 1048576: NARROWER than '..Said'. Prove '..Said' where nothing that the law and all that it calls make is longer than what came in: it says more and counts as full. Else prove '..UptoSaid'. A law counts once. -/
mutual
def uptoBulk {H : Type} : DataW H → Nat
  | .lit (.string bytes) => bytes.length + 1
  | .lit _ => 1
  | .nil => 1
  | .ptr d => uptoBulk d + 1
  | .slice elems spare => uptoBulkAll elems + uptoBulkAll spare + 1
  | .agg parts => uptoBulkAll parts + 1
  | .iface _ d => uptoBulk d + 1
  | .map entries => uptoBulkEntries entries + 1
  | .held _ => 1
def uptoBulkAll {H : Type} : List (DataW H) → Nat
  | [] => 0
  | d :: r => uptoBulk d + uptoBulkAll r
def uptoBulkEntries {H : Type} : List (Lit × DataW H) → Nat
  | [] => 0
  | x :: r => uptoBulkEntry x + uptoBulkEntries r
def uptoBulkEntry {H : Type} : Lit × DataW H → Nat
  | (.string bytes, d) => bytes.length + uptoBulk d + 1
  | (_, d) => uptoBulk d + 1
 end
def uptoSmall : (H : Type) → List (DataW H) → Bool := fun _ ds => decide (uptoBulkAll ds ≤ 1048576)
def OpenSpec.upto (s : _root_.Go.ChangeSpec) : _root_.Go.OpenSpec := { _root_.Go.OpenSpec.ofChange s with cond := some uptoSmall }

/-- 'laws.FnIsClass', WHERE WHAT IT READS IS OF BULK AT MOST 1048576: true; the input reads as it did. -/
def fnIsClassUptoRow : OpenClaim := { program := "ytldldchdkcmojaa", sum := "8a83ed900597f6f63d529ae90461b2cef82570dedeeb142cdae782adbc42dbcf", func := "given.example/pub-bosquet/laws.FnIsClass", spec := "fnIsClass", unfollowed := true, recurses := true, apart := false, narrowed := true }
def FnIsClassUptoSaid : Prop := fnIsClassUptoRow.holds Try.pinned (OpenSpec.upto fnIsClassSpec)

/-- 'laws.FnTestAttr', WHERE WHAT IT READS IS OF BULK AT MOST 1048576: true; the input reads as it did. -/
def fnTestAttrUptoRow : OpenClaim := { program := "ytldldchdkcmojaa", sum := "8a83ed900597f6f63d529ae90461b2cef82570dedeeb142cdae782adbc42dbcf", func := "given.example/pub-bosquet/laws.FnTestAttr", spec := "fnTestAttr", unfollowed := true, recurses := true, apart := false, narrowed := true }
def FnTestAttrUptoSaid : Prop := fnTestAttrUptoRow.holds Try.pinned (OpenSpec.upto fnTestAttrSpec)

/-- 'laws.FnEachBreak', WHERE WHAT IT READS IS OF BULK AT MOST 1048576: true; the input reads as it did. -/
def fnEachBreakUptoRow : OpenClaim := { program := "ytldldchdkcmojaa", sum := "8a83ed900597f6f63d529ae90461b2cef82570dedeeb142cdae782adbc42dbcf", func := "given.example/pub-bosquet/laws.FnEachBreak", spec := "fnEachBreak", unfollowed := true, recurses := true, apart := false, narrowed := true }
def FnEachBreakUptoSaid : Prop := fnEachBreakUptoRow.holds Try.pinned (OpenSpec.upto fnEachBreakSpec)

/-- 'laws.FnIsBy', WHERE WHAT IT READS IS OF BULK AT MOST 1048576: true; the input reads as it did. -/
def fnIsByUptoRow : OpenClaim := { program := "ytldldchdkcmojaa", sum := "8a83ed900597f6f63d529ae90461b2cef82570dedeeb142cdae782adbc42dbcf", func := "given.example/pub-bosquet/laws.FnIsBy", spec := "fnIsBy", unfollowed := true, recurses := true, apart := false, narrowed := true }
def FnIsByUptoSaid : Prop := fnIsByUptoRow.holds Try.pinned (OpenSpec.upto fnIsBySpec)

/-- 'laws.FnTextOf', WHERE WHAT IT READS IS OF BULK AT MOST 1048576: true; the input reads as it did. -/
def fnTextOfUptoRow : OpenClaim := { program := "ytldldchdkcmojaa", sum := "8a83ed900597f6f63d529ae90461b2cef82570dedeeb142cdae782adbc42dbcf", func := "given.example/pub-bosquet/laws.FnTextOf", spec := "fnTextOf", inPlace := ["internal/abi.NoEscape"], recurses := true, apart := false, narrowed := true }
def FnTextOfUptoSaid : Prop := fnTextOfUptoRow.holds Try.pinned (OpenSpec.upto fnTextOfSpec)

/-- 'laws.FnCloned', WHERE WHAT IT READS IS OF BULK AT MOST 1048576: true; the input reads as it did. -/
def fnClonedUptoRow : OpenClaim := { program := "ytldldchdkcmojaa", sum := "8a83ed900597f6f63d529ae90461b2cef82570dedeeb142cdae782adbc42dbcf", func := "given.example/pub-bosquet/laws.FnCloned", spec := "fnCloned", recurses := true, apart := false, narrowed := true }
def FnClonedUptoSaid : Prop := fnClonedUptoRow.holds Try.pinned (OpenSpec.upto fnClonedSpec)

end Rows
end Go.Proofs.Ytldldchdkcmojaa
