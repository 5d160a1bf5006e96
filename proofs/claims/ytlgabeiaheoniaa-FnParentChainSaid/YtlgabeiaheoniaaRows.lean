/-
  No cell of these rows narrows 'for every input' (looked for: loops, veiled, ifaces, maps, wideKeys, modest, calm, conditions, laid).
  DERIVED. THE GIVEN ROWS OF THIS SEAT. 9 by the template 'for every input the law returns true; each argument reads behind the call as it read before'; 0 by the template 'total and deterministic' (their statements: YtlgabeiaheoniaaTotals.lean).
  GIVEN WITH THE SEED: the statements are not yours to turn. If you find one false, say at which input.
  Laid BY PROGRAM, IN A SANDBOX (cutbox-rows.mjs): the forced cells as the released guide's own fill.sh prints them over the translation 61b96dbd5c60d98e… (all of the seat's roots in one cut). By AI agents, Wed Nov 11 2026. No macro, syntax, notation, axiom, sorry.
-/
import Derived.Test.YtlgabeiaheoniaaChecked
import GoSem.Claim
import GoSem.ClaimJoined
import GoSem.ClaimMapViews
import Derived.JoinedTies
import Derived.KernelRfl
namespace Go.Proofs.Ytlgabeiaheoniaa
/- THE CELL 'sum', in the pinned program and in every row, IS THE sha256 OF THE DUMP (.gsa) THAT YtlgabeiaheoniaaProg.lean LOADS. Nothing in Lean hashes anything: it is a label: what it is worth is what the hold of that sum in a sandbox is worth. -/
noncomputable def Try.pinned : Pinned := { name := "ytlgabeiaheoniaa", sum := "61b96dbd5c60d98efd5ca29d8343af3d9d65c4ac8d166e4e0f5c405d4794f824", checked := Try.checked }
namespace Rows
def none {H : Type} : Left H := { results := [], args := [] }

/-- 'laws.FnContentsOf': WHATEVER THE INPUT: true; the input reads as it did. -/
def fnContentsOfSpec : ChangeSpec := { name := "fnContentsOf", fn := fun _ => fun
  | [d1, d2] => { results := [.lit (.bool true)], args := [d1, d2] }
  | _ => none }
def fnContentsOfRow : OpenClaim := { program := "ytlgabeiaheoniaa", sum := "61b96dbd5c60d98efd5ca29d8343af3d9d65c4ac8d166e4e0f5c405d4794f824", func := "given.example/pub-bosquet/laws.FnContentsOf", spec := "fnContentsOf", unfollowed := true, recurses := true, apart := false }
def FnContentsOfSaid : Prop := fnContentsOfRow.holds Try.pinned (OpenSpec.ofChange fnContentsOfSpec)

/-- ITS FALSE NEIGHBOUR: 'it returns false'. Refute it at one input. -/
def fnContentsOfWrong : ChangeSpec := { name := "fnContentsOf", fn := fun _ => fun
  | [d1, d2] => { results := [.lit (.bool false)], args := [d1, d2] }
  | _ => none }
def FnContentsOfWrongFalsely : Prop := fnContentsOfRow.holds Try.pinned (OpenSpec.ofChange fnContentsOfWrong)

/-- 'laws.FnChildrenOrder': WHATEVER THE INPUT: true; the input reads as it did. -/
def fnChildrenOrderSpec : ChangeSpec := { name := "fnChildrenOrder", fn := fun _ => fun
  | [d1, d2] => { results := [.lit (.bool true)], args := [d1, d2] }
  | _ => none }
def fnChildrenOrderRow : OpenClaim := { program := "ytlgabeiaheoniaa", sum := "61b96dbd5c60d98efd5ca29d8343af3d9d65c4ac8d166e4e0f5c405d4794f824", func := "given.example/pub-bosquet/laws.FnChildrenOrder", spec := "fnChildrenOrder", unfollowed := true, recurses := true, apart := false }
def FnChildrenOrderSaid : Prop := fnChildrenOrderRow.holds Try.pinned (OpenSpec.ofChange fnChildrenOrderSpec)

/-- ITS FALSE NEIGHBOUR: 'it returns false'. Refute it at one input. -/
def fnChildrenOrderWrong : ChangeSpec := { name := "fnChildrenOrder", fn := fun _ => fun
  | [d1, d2] => { results := [.lit (.bool false)], args := [d1, d2] }
  | _ => none }
def FnChildrenOrderWrongFalsely : Prop := fnChildrenOrderRow.holds Try.pinned (OpenSpec.ofChange fnChildrenOrderWrong)

/-- 'laws.FnParentChain': WHATEVER THE INPUT: true; the input reads as it did. -/
def fnParentChainSpec : ChangeSpec := { name := "fnParentChain", fn := fun _ => fun
  | [d1, d2] => { results := [.lit (.bool true)], args := [d1, d2] }
  | _ => none }
def fnParentChainRow : OpenClaim := { program := "ytlgabeiaheoniaa", sum := "61b96dbd5c60d98efd5ca29d8343af3d9d65c4ac8d166e4e0f5c405d4794f824", func := "given.example/pub-bosquet/laws.FnParentChain", spec := "fnParentChain", unfollowed := true, recurses := true, apart := false }
def FnParentChainSaid : Prop := fnParentChainRow.holds Try.pinned (OpenSpec.ofChange fnParentChainSpec)

/-- ITS FALSE NEIGHBOUR: 'it returns false'. Refute it at one input. -/
def fnParentChainWrong : ChangeSpec := { name := "fnParentChain", fn := fun _ => fun
  | [d1, d2] => { results := [.lit (.bool false)], args := [d1, d2] }
  | _ => none }
def FnParentChainWrongFalsely : Prop := fnParentChainRow.holds Try.pinned (OpenSpec.ofChange fnParentChainWrong)

/-- 'laws.FnNextOf': WHATEVER THE INPUT: true; the input reads as it did. -/
def fnNextOfSpec : ChangeSpec := { name := "fnNextOf", fn := fun _ => fun
  | [d1, d2] => { results := [.lit (.bool true)], args := [d1, d2] }
  | _ => none }
def fnNextOfRow : OpenClaim := { program := "ytlgabeiaheoniaa", sum := "61b96dbd5c60d98efd5ca29d8343af3d9d65c4ac8d166e4e0f5c405d4794f824", func := "given.example/pub-bosquet/laws.FnNextOf", spec := "fnNextOf", unfollowed := true, recurses := true, apart := false }
def FnNextOfSaid : Prop := fnNextOfRow.holds Try.pinned (OpenSpec.ofChange fnNextOfSpec)

/-- ITS FALSE NEIGHBOUR: 'it returns false'. Refute it at one input. -/
def fnNextOfWrong : ChangeSpec := { name := "fnNextOf", fn := fun _ => fun
  | [d1, d2] => { results := [.lit (.bool false)], args := [d1, d2] }
  | _ => none }
def FnNextOfWrongFalsely : Prop := fnNextOfRow.holds Try.pinned (OpenSpec.ofChange fnNextOfWrong)

/-- 'laws.FnPrevAllOf': WHATEVER THE INPUT: true; the input reads as it did. -/
def fnPrevAllOfSpec : ChangeSpec := { name := "fnPrevAllOf", fn := fun _ => fun
  | [d1, d2] => { results := [.lit (.bool true)], args := [d1, d2] }
  | _ => none }
def fnPrevAllOfRow : OpenClaim := { program := "ytlgabeiaheoniaa", sum := "61b96dbd5c60d98efd5ca29d8343af3d9d65c4ac8d166e4e0f5c405d4794f824", func := "given.example/pub-bosquet/laws.FnPrevAllOf", spec := "fnPrevAllOf", unfollowed := true, recurses := true, apart := false }
def FnPrevAllOfSaid : Prop := fnPrevAllOfRow.holds Try.pinned (OpenSpec.ofChange fnPrevAllOfSpec)

/-- ITS FALSE NEIGHBOUR: 'it returns false'. Refute it at one input. -/
def fnPrevAllOfWrong : ChangeSpec := { name := "fnPrevAllOf", fn := fun _ => fun
  | [d1, d2] => { results := [.lit (.bool false)], args := [d1, d2] }
  | _ => none }
def FnPrevAllOfWrongFalsely : Prop := fnPrevAllOfRow.holds Try.pinned (OpenSpec.ofChange fnPrevAllOfWrong)

/-- 'laws.FnNextUntilOf': WHATEVER THE INPUT: true; the input reads as it did. -/
def fnNextUntilOfSpec : ChangeSpec := { name := "fnNextUntilOf", fn := fun _ => fun
  | [d1, d2, d3] => { results := [.lit (.bool true)], args := [d1, d2, d3] }
  | _ => none }
def fnNextUntilOfRow : OpenClaim := { program := "ytlgabeiaheoniaa", sum := "61b96dbd5c60d98efd5ca29d8343af3d9d65c4ac8d166e4e0f5c405d4794f824", func := "given.example/pub-bosquet/laws.FnNextUntilOf", spec := "fnNextUntilOf", unfollowed := true, recurses := true, apart := false }
def FnNextUntilOfSaid : Prop := fnNextUntilOfRow.holds Try.pinned (OpenSpec.ofChange fnNextUntilOfSpec)

/-- ITS FALSE NEIGHBOUR: 'it returns false'. Refute it at one input. -/
def fnNextUntilOfWrong : ChangeSpec := { name := "fnNextUntilOf", fn := fun _ => fun
  | [d1, d2, d3] => { results := [.lit (.bool false)], args := [d1, d2, d3] }
  | _ => none }
def FnNextUntilOfWrongFalsely : Prop := fnNextUntilOfRow.holds Try.pinned (OpenSpec.ofChange fnNextUntilOfWrong)

/-- 'laws.FnSiblingParts': WHATEVER THE INPUT: true; the input reads as it did. -/
def fnSiblingPartsSpec : ChangeSpec := { name := "fnSiblingParts", fn := fun _ => fun
  | [d1, d2] => { results := [.lit (.bool true)], args := [d1, d2] }
  | _ => none }
def fnSiblingPartsRow : OpenClaim := { program := "ytlgabeiaheoniaa", sum := "61b96dbd5c60d98efd5ca29d8343af3d9d65c4ac8d166e4e0f5c405d4794f824", func := "given.example/pub-bosquet/laws.FnSiblingParts", spec := "fnSiblingParts", unfollowed := true, recurses := true, apart := false }
def FnSiblingPartsSaid : Prop := fnSiblingPartsRow.holds Try.pinned (OpenSpec.ofChange fnSiblingPartsSpec)

/-- ITS FALSE NEIGHBOUR: 'it returns false'. Refute it at one input. -/
def fnSiblingPartsWrong : ChangeSpec := { name := "fnSiblingParts", fn := fun _ => fun
  | [d1, d2] => { results := [.lit (.bool false)], args := [d1, d2] }
  | _ => none }
def FnSiblingPartsWrongFalsely : Prop := fnSiblingPartsRow.holds Try.pinned (OpenSpec.ofChange fnSiblingPartsWrong)

/-- 'laws.FnAttrsAdded': WHATEVER THE INPUT: true; the input reads as it did. -/
def fnAttrsAddedSpec : ChangeSpec := { name := "fnAttrsAdded", fn := fun _ => fun
  | [d1, d2] => { results := [.lit (.bool true)], args := [d1, d2] }
  | _ => none }
def fnAttrsAddedRow : OpenClaim := { program := "ytlgabeiaheoniaa", sum := "61b96dbd5c60d98efd5ca29d8343af3d9d65c4ac8d166e4e0f5c405d4794f824", func := "given.example/pub-bosquet/laws.FnAttrsAdded", spec := "fnAttrsAdded", inPlace := ["internal/abi.NoEscape", "internal/bytealg.MakeNoZero"], apart := false }
def FnAttrsAddedSaid : Prop := fnAttrsAddedRow.holds Try.pinned (OpenSpec.ofChange fnAttrsAddedSpec)

/-- ITS FALSE NEIGHBOUR: 'it returns false'. Refute it at one input. -/
def fnAttrsAddedWrong : ChangeSpec := { name := "fnAttrsAdded", fn := fun _ => fun
  | [d1, d2] => { results := [.lit (.bool false)], args := [d1, d2] }
  | _ => none }
def FnAttrsAddedWrongFalsely : Prop := fnAttrsAddedRow.holds Try.pinned (OpenSpec.ofChange fnAttrsAddedWrong)

/-- 'laws.FnAttrsClass': WHATEVER THE INPUT: true; the input reads as it did. -/
def fnAttrsClassSpec : ChangeSpec := { name := "fnAttrsClass", fn := fun _ => fun
  | [d1, d2] => { results := [.lit (.bool true)], args := [d1, d2] }
  | _ => none }
def fnAttrsClassRow : OpenClaim := { program := "ytlgabeiaheoniaa", sum := "61b96dbd5c60d98efd5ca29d8343af3d9d65c4ac8d166e4e0f5c405d4794f824", func := "given.example/pub-bosquet/laws.FnAttrsClass", spec := "fnAttrsClass", inPlace := ["internal/abi.NoEscape", "internal/bytealg.MakeNoZero"], apart := false }
def FnAttrsClassSaid : Prop := fnAttrsClassRow.holds Try.pinned (OpenSpec.ofChange fnAttrsClassSpec)

/-- ITS FALSE NEIGHBOUR: 'it returns false'. Refute it at one input. -/
def fnAttrsClassWrong : ChangeSpec := { name := "fnAttrsClass", fn := fun _ => fun
  | [d1, d2] => { results := [.lit (.bool false)], args := [d1, d2] }
  | _ => none }
def FnAttrsClassWrongFalsely : Prop := fnAttrsClassRow.holds Try.pinned (OpenSpec.ofChange fnAttrsClassWrong)

/- THE SECOND FORM. 'bulk': how many values and letters a reading holds, each counted each time it is reached (what is shared counts as often as it is met; a slice's spare places count too). A statement '..UptoSaid' is the law's where the arguments, and the package variables that the reading takes, are together of bulk at most 1048576: NARROWER than '..Said'. Prove '..Said' where nothing that the law and all that it calls make is longer than what came in: it says more and counts as full. Else prove '..UptoSaid'. A law counts once. -/
mutual
def uptoBulk {H : Type} : DataW H → Nat
  | .lit (.string bytes) => bytes.length + 1
  | .lit _ => 1
  | .nil => 1
  | .ptr d => uptoBulk d + 1
  | .slice elems spare => uptoBulkAll elems + uptoBulkAll spare + 1
  | .agg parts => uptoBulkAll parts + 1
  | .iface _ d => uptoBulk d + 1
  | .map entries => uptoBulkEntries entries + 1
  | .held _ => 1
def uptoBulkAll {H : Type} : List (DataW H) → Nat
  | [] => 0
  | d :: r => uptoBulk d + uptoBulkAll r
def uptoBulkEntries {H : Type} : List (Lit × DataW H) → Nat
  | [] => 0
  | x :: r => uptoBulkEntry x + uptoBulkEntries r
def uptoBulkEntry {H : Type} : Lit × DataW H → Nat
  | (.string bytes, d) => bytes.length + uptoBulk d + 1
  | (_, d) => uptoBulk d + 1
 end
def uptoSmall : (H : Type) → List (DataW H) → Bool := fun _ ds => decide (uptoBulkAll ds ≤ 1048576)
def OpenSpec.upto (s : _root_.Go.ChangeSpec) : _root_.Go.OpenSpec := { _root_.Go.OpenSpec.ofChange s with cond := some uptoSmall }

/-- 'laws.FnContentsOf', WHERE WHAT IT READS IS OF BULK AT MOST 1048576: true; the input reads as it did. -/
def fnContentsOfUptoRow : OpenClaim := { program := "ytlgabeiaheoniaa", sum := "61b96dbd5c60d98efd5ca29d8343af3d9d65c4ac8d166e4e0f5c405d4794f824", func := "given.example/pub-bosquet/laws.FnContentsOf", spec := "fnContentsOf", unfollowed := true, recurses := true, apart := false, narrowed := true }
def FnContentsOfUptoSaid : Prop := fnContentsOfUptoRow.holds Try.pinned (OpenSpec.upto fnContentsOfSpec)

/-- 'laws.FnChildrenOrder', WHERE WHAT IT READS IS OF BULK AT MOST 1048576: true; the input reads as it did. -/
def fnChildrenOrderUptoRow : OpenClaim := { program := "ytlgabeiaheoniaa", sum := "61b96dbd5c60d98efd5ca29d8343af3d9d65c4ac8d166e4e0f5c405d4794f824", func := "given.example/pub-bosquet/laws.FnChildrenOrder", spec := "fnChildrenOrder", unfollowed := true, recurses := true, apart := false, narrowed := true }
def FnChildrenOrderUptoSaid : Prop := fnChildrenOrderUptoRow.holds Try.pinned (OpenSpec.upto fnChildrenOrderSpec)

/-- 'laws.FnParentChain', WHERE WHAT IT READS IS OF BULK AT MOST 1048576: true; the input reads as it did. -/
def fnParentChainUptoRow : OpenClaim := { program := "ytlgabeiaheoniaa", sum := "61b96dbd5c60d98efd5ca29d8343af3d9d65c4ac8d166e4e0f5c405d4794f824", func := "given.example/pub-bosquet/laws.FnParentChain", spec := "fnParentChain", unfollowed := true, recurses := true, apart := false, narrowed := true }
def FnParentChainUptoSaid : Prop := fnParentChainUptoRow.holds Try.pinned (OpenSpec.upto fnParentChainSpec)

/-- 'laws.FnNextOf', WHERE WHAT IT READS IS OF BULK AT MOST 1048576: true; the input reads as it did. -/
def fnNextOfUptoRow : OpenClaim := { program := "ytlgabeiaheoniaa", sum := "61b96dbd5c60d98efd5ca29d8343af3d9d65c4ac8d166e4e0f5c405d4794f824", func := "given.example/pub-bosquet/laws.FnNextOf", spec := "fnNextOf", unfollowed := true, recurses := true, apart := false, narrowed := true }
def FnNextOfUptoSaid : Prop := fnNextOfUptoRow.holds Try.pinned (OpenSpec.upto fnNextOfSpec)

/-- 'laws.FnPrevAllOf', WHERE WHAT IT READS IS OF BULK AT MOST 1048576: true; the input reads as it did. -/
def fnPrevAllOfUptoRow : OpenClaim := { program := "ytlgabeiaheoniaa", sum := "61b96dbd5c60d98efd5ca29d8343af3d9d65c4ac8d166e4e0f5c405d4794f824", func := "given.example/pub-bosquet/laws.FnPrevAllOf", spec := "fnPrevAllOf", unfollowed := true, recurses := true, apart := false, narrowed := true }
def FnPrevAllOfUptoSaid : Prop := fnPrevAllOfUptoRow.holds Try.pinned (OpenSpec.upto fnPrevAllOfSpec)

/-- 'laws.FnNextUntilOf', WHERE WHAT IT READS IS OF BULK AT MOST 1048576: true; the input reads as it did. -/
def fnNextUntilOfUptoRow : OpenClaim := { program := "ytlgabeiaheoniaa", sum := "61b96dbd5c60d98efd5ca29d8343af3d9d65c4ac8d166e4e0f5c405d4794f824", func := "given.example/pub-bosquet/laws.FnNextUntilOf", spec := "fnNextUntilOf", unfollowed := true, recurses := true, apart := false, narrowed := true }
def FnNextUntilOfUptoSaid : Prop := fnNextUntilOfUptoRow.holds Try.pinned (OpenSpec.upto fnNextUntilOfSpec)

/-- 'laws.FnSiblingParts', WHERE WHAT IT READS IS OF BULK AT MOST 1048576: true; the input reads as it did. -/
def fnSiblingPartsUptoRow : OpenClaim := { program := "ytlgabeiaheoniaa", sum := "61b96dbd5c60d98efd5ca29d8343af3d9d65c4ac8d166e4e0f5c405d4794f824", func := "given.example/pub-bosquet/laws.FnSiblingParts", spec := "fnSiblingParts", unfollowed := true, recurses := true, apart := false, narrowed := true }
def FnSiblingPartsUptoSaid : Prop := fnSiblingPartsUptoRow.holds Try.pinned (OpenSpec.upto fnSiblingPartsSpec)

/-- 'laws.FnAttrsAdded', WHERE WHAT IT READS IS OF BULK AT MOST 1048576: true; the input reads as it did. -/
def fnAttrsAddedUptoRow : OpenClaim := { program := "ytlgabeiaheoniaa", sum := "61b96dbd5c60d98efd5ca29d8343af3d9d65c4ac8d166e4e0f5c405d4794f824", func := "given.example/pub-bosquet/laws.FnAttrsAdded", spec := "fnAttrsAdded", inPlace := ["internal/abi.NoEscape", "internal/bytealg.MakeNoZero"], apart := false, narrowed := true }
def FnAttrsAddedUptoSaid : Prop := fnAttrsAddedUptoRow.holds Try.pinned (OpenSpec.upto fnAttrsAddedSpec)

/-- 'laws.FnAttrsClass', WHERE WHAT IT READS IS OF BULK AT MOST 1048576: true; the input reads as it did. -/
def fnAttrsClassUptoRow : OpenClaim := { program := "ytlgabeiaheoniaa", sum := "61b96dbd5c60d98efd5ca29d8343af3d9d65c4ac8d166e4e0f5c405d4794f824", func := "given.example/pub-bosquet/laws.FnAttrsClass", spec := "fnAttrsClass", inPlace := ["internal/abi.NoEscape", "internal/bytealg.MakeNoZero"], apart := false, narrowed := true }
def FnAttrsClassUptoSaid : Prop := fnAttrsClassUptoRow.holds Try.pinned (OpenSpec.upto fnAttrsClassSpec)

end Rows
end Go.Proofs.Ytlgabeiaheoniaa
