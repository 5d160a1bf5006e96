/-
  No cell of these rows narrows 'for every input' (looked for: loops, veiled, ifaces, maps, wideKeys, modest, calm, conditions, laid).
  DERIVED. THE GIVEN ROWS OF THIS SEAT. 3 by the template 'for every input the law returns true; each argument reads behind the call as it read before'; 0 by the template 'total and deterministic' (their statements: YtcbmbmfenhoflaaTotals.lean).
  GIVEN WITH THE SEED: the statements are not yours to turn. If you find one false, say at which input.
  Laid BY PROGRAM, IN A SANDBOX (cutbox-rows.mjs): the forced cells as the released guide's own fill.sh prints them over the translation 2aa64d47cf4f0f4d… (all of the seat's roots in one cut). By AI agents, Wed Nov 11 2026. No macro, syntax, notation, axiom, sorry.
-/
import Derived.Test.YtcbmbmfenhoflaaChecked
import GoSem.Claim
import GoSem.ClaimJoined
import GoSem.ClaimMapViews
import Derived.JoinedTies
import Derived.KernelRfl
namespace Go.Proofs.Ytcbmbmfenhoflaa
/- THE CELL 'sum', in the pinned program and in every row, IS THE sha256 OF THE DUMP (.gsa) THAT YtcbmbmfenhoflaaProg.lean LOADS. Nothing in Lean hashes anything: it is a label: what it is worth is what the hold of that sum in a sandbox is worth. -/
noncomputable def Try.pinned : Pinned := { name := "ytcbmbmfenhoflaa", sum := "2aa64d47cf4f0f4d67ceb0f50265662e0ea0bc7e456cdbda6406d6e0ea6f30e1", checked := Try.checked }
namespace Rows
def none {H : Type} : Left H := { results := [], args := [] }

/-- 'laws.FnTextOf': WHATEVER THE INPUT: true; the input reads as it did. -/
def fnTextOfSpec : ChangeSpec := { name := "fnTextOf", fn := fun _ => fun
  | [d1, d2] => { results := [.lit (.bool true)], args := [d1, d2] }
  | _ => none }
def fnTextOfRow : OpenClaim := { program := "ytcbmbmfenhoflaa", sum := "2aa64d47cf4f0f4d67ceb0f50265662e0ea0bc7e456cdbda6406d6e0ea6f30e1", func := "given.example/pub-bosquet/laws.FnTextOf", spec := "fnTextOf", inPlace := ["internal/abi.NoEscape"], recurses := true, apart := false }
def FnTextOfSaid : Prop := fnTextOfRow.holds Try.pinned (OpenSpec.ofChange fnTextOfSpec)

/-- ITS FALSE NEIGHBOUR: 'it returns false'. Refute it at one input. -/
def fnTextOfWrong : ChangeSpec := { name := "fnTextOf", fn := fun _ => fun
  | [d1, d2] => { results := [.lit (.bool false)], args := [d1, d2] }
  | _ => none }
def FnTextOfWrongFalsely : Prop := fnTextOfRow.holds Try.pinned (OpenSpec.ofChange fnTextOfWrong)

/-- 'laws.FnAttrsAdded': WHATEVER THE INPUT: true; the input reads as it did. -/
def fnAttrsAddedSpec : ChangeSpec := { name := "fnAttrsAdded", fn := fun _ => fun
  | [d1, d2] => { results := [.lit (.bool true)], args := [d1, d2] }
  | _ => none }
def fnAttrsAddedRow : OpenClaim := { program := "ytcbmbmfenhoflaa", sum := "2aa64d47cf4f0f4d67ceb0f50265662e0ea0bc7e456cdbda6406d6e0ea6f30e1", func := "given.example/pub-bosquet/laws.FnAttrsAdded", spec := "fnAttrsAdded", inPlace := ["internal/abi.NoEscape", "internal/bytealg.MakeNoZero"], apart := false }
def FnAttrsAddedSaid : Prop := fnAttrsAddedRow.holds Try.pinned (OpenSpec.ofChange fnAttrsAddedSpec)

/-- ITS FALSE NEIGHBOUR: 'it returns false'. Refute it at one input. -/
def fnAttrsAddedWrong : ChangeSpec := { name := "fnAttrsAdded", fn := fun _ => fun
  | [d1, d2] => { results := [.lit (.bool false)], args := [d1, d2] }
  | _ => none }
def FnAttrsAddedWrongFalsely : Prop := fnAttrsAddedRow.holds Try.pinned (OpenSpec.ofChange fnAttrsAddedWrong)

/-- 'laws.FnAttrsClass': WHATEVER THE INPUT: true; the input reads as it did. -/
def fnAttrsClassSpec : ChangeSpec := { name := "fnAttrsClass", fn := fun _ => fun
  | [d1, d2] => { results := [.lit (.bool true)], args := [d1, d2] }
  | _ => none }
def fnAttrsClassRow : OpenClaim := { program := "ytcbmbmfenhoflaa", sum := "2aa64d47cf4f0f4d67ceb0f50265662e0ea0bc7e456cdbda6406d6e0ea6f30e1", func := "given.example/pub-bosquet/laws.FnAttrsClass", spec := "fnAttrsClass", inPlace := ["internal/abi.NoEscape", "internal/bytealg.MakeNoZero"], apart := false }
def FnAttrsClassSaid : Prop := fnAttrsClassRow.holds Try.pinned (OpenSpec.ofChange fnAttrsClassSpec)

/-- ITS FALSE NEIGHBOUR: 'it returns false'. Refute it at one input. -/
def fnAttrsClassWrong : ChangeSpec := { name := "fnAttrsClass", fn := fun _ => fun
  | [d1, d2] => { results := [.lit (.bool false)], args := [d1, d2] }
  | _ => none }
def FnAttrsClassWrongFalsely : Prop := fnAttrsClassRow.holds Try.pinned (OpenSpec.ofChange fnAttrsClassWrong)

/- THE SECOND FORM. 'bulk': how many values and letters a reading holds, each counted each time it is reached (what is shared counts as often as it is met; a slice's spare places count too). A statement '..UptoSaid' is the law's where the arguments, and the package variables that the reading takes, are together of bulk at most 1048576: NARROWER than '..Said'. Prove '..Said' where nothing that the law and all that it calls make is longer than what came in: it says more and counts as full. Else prove '..UptoSaid'. A law counts once. -/
mutual
def uptoBulk {H : Type} : DataW H → Nat
  | .lit (.string bytes) => bytes.length + 1
  | .lit _ => 1
  | .nil => 1
  | .ptr d => uptoBulk d + 1
  | .slice elems spare => uptoBulkAll elems + uptoBulkAll spare + 1
  | .agg parts => uptoBulkAll parts + 1
  | .iface _ d => uptoBulk d + 1
  | .map entries => uptoBulkEntries entries + 1
  | .held _ => 1
def uptoBulkAll {H : Type} : List (DataW H) → Nat
  | [] => 0
  | d :: r => uptoBulk d + uptoBulkAll r
def uptoBulkEntries {H : Type} : List (Lit × DataW H) → Nat
  | [] => 0
  | x :: r => uptoBulkEntry x + uptoBulkEntries r
def uptoBulkEntry {H : Type} : Lit × DataW H → Nat
  | (.string bytes, d) => bytes.length + uptoBulk d + 1
  | (_, d) => uptoBulk d + 1
 end
def uptoSmall : (H : Type) → List (DataW H) → Bool := fun _ ds => decide (uptoBulkAll ds ≤ 1048576)
def OpenSpec.upto (s : _root_.Go.ChangeSpec) : _root_.Go.OpenSpec := { _root_.Go.OpenSpec.ofChange s with cond := some uptoSmall }

/-- 'laws.FnTextOf', WHERE WHAT IT READS IS OF BULK AT MOST 1048576: true; the input reads as it did. -/
def fnTextOfUptoRow : OpenClaim := { program := "ytcbmbmfenhoflaa", sum := "2aa64d47cf4f0f4d67ceb0f50265662e0ea0bc7e456cdbda6406d6e0ea6f30e1", func := "given.example/pub-bosquet/laws.FnTextOf", spec := "fnTextOf", inPlace := ["internal/abi.NoEscape"], recurses := true, apart := false, narrowed := true }
def FnTextOfUptoSaid : Prop := fnTextOfUptoRow.holds Try.pinned (OpenSpec.upto fnTextOfSpec)

/-- 'laws.FnAttrsAdded', WHERE WHAT IT READS IS OF BULK AT MOST 1048576: true; the input reads as it did. -/
def fnAttrsAddedUptoRow : OpenClaim := { program := "ytcbmbmfenhoflaa", sum := "2aa64d47cf4f0f4d67ceb0f50265662e0ea0bc7e456cdbda6406d6e0ea6f30e1", func := "given.example/pub-bosquet/laws.FnAttrsAdded", spec := "fnAttrsAdded", inPlace := ["internal/abi.NoEscape", "internal/bytealg.MakeNoZero"], apart := false, narrowed := true }
def FnAttrsAddedUptoSaid : Prop := fnAttrsAddedUptoRow.holds Try.pinned (OpenSpec.upto fnAttrsAddedSpec)

/-- 'laws.FnAttrsClass', WHERE WHAT IT READS IS OF BULK AT MOST 1048576: true; the input reads as it did. -/
def fnAttrsClassUptoRow : OpenClaim := { program := "ytcbmbmfenhoflaa", sum := "2aa64d47cf4f0f4d67ceb0f50265662e0ea0bc7e456cdbda6406d6e0ea6f30e1", func := "given.example/pub-bosquet/laws.FnAttrsClass", spec := "fnAttrsClass", inPlace := ["internal/abi.NoEscape", "internal/bytealg.MakeNoZero"], apart := false, narrowed := true }
def FnAttrsClassUptoSaid : Prop := fnAttrsClassUptoRow.holds Try.pinned (OpenSpec.upto fnAttrsClassSpec)

end Rows
end Go.Proofs.Ytcbmbmfenhoflaa
