/-
  No cell of these rows narrows 'for every input' (looked for: loops, veiled, ifaces, maps, wideKeys, modest, calm, conditions, laid).
  DERIVED. THE GIVEN ROWS OF THIS SEAT. 6 by the template 'for every input the law returns true; each argument reads behind the call as it read before'; 0 by the template 'total and deterministic' (their statements: YtchhjooifjcnkaaTotals.lean).
  GIVEN WITH THE SEED: the statements are not yours to turn. If you find one false, say at which input.
  Laid BY PROGRAM, IN A SANDBOX (cutbox-rows.mjs): the forced cells as the released guide's own fill.sh prints them over the translation 6c0b32937a1deb48… (all of the seat's roots in one cut). By AI agents, Wed Nov 11 2026. No macro, syntax, notation, axiom, sorry.
-/
import Derived.Test.YtchhjooifjcnkaaChecked
import GoSem.Claim
import GoSem.ClaimJoined
import GoSem.ClaimMapViews
import Derived.JoinedTies
import Derived.KernelRfl
namespace Go.Proofs.Ytchhjooifjcnkaa
/- THE CELL 'sum', in the pinned program and in every row, IS THE sha256 OF THE DUMP (.gsa) THAT YtchhjooifjcnkaaProg.lean LOADS. Nothing in Lean hashes anything: it is a label: what it is worth is what the hold of that sum in a sandbox is worth. -/
noncomputable def Try.pinned : Pinned := { name := "ytchhjooifjcnkaa", sum := "6c0b32937a1deb485b5b02a5e9291d41a97dd5e4406a621cb7abae4f1404d410", checked := Try.checked }
namespace Rows
def none {H : Type} : Left H := { results := [], args := [] }

/-- 'laws.FnSpecificOrder': WHATEVER THE INPUT: true; the input reads as it did. -/
def fnSpecificOrderSpec : ChangeSpec := { name := "fnSpecificOrder", fn := fun _ => fun
  | [d1, d2, d3] => { results := [.lit (.bool true)], args := [d1, d2, d3] }
  | _ => none }
def fnSpecificOrderRow : OpenClaim := { program := "ytchhjooifjcnkaa", sum := "6c0b32937a1deb485b5b02a5e9291d41a97dd5e4406a621cb7abae4f1404d410", func := "given.example/pub-bosquet/laws.FnSpecificOrder", spec := "fnSpecificOrder", apart := false }
def FnSpecificOrderSaid : Prop := fnSpecificOrderRow.holds Try.pinned (OpenSpec.ofChange fnSpecificOrderSpec)

/-- ITS FALSE NEIGHBOUR: 'it returns false'. Refute it at one input. -/
def fnSpecificOrderWrong : ChangeSpec := { name := "fnSpecificOrder", fn := fun _ => fun
  | [d1, d2, d3] => { results := [.lit (.bool false)], args := [d1, d2, d3] }
  | _ => none }
def FnSpecificOrderWrongFalsely : Prop := fnSpecificOrderRow.holds Try.pinned (OpenSpec.ofChange fnSpecificOrderWrong)

/-- 'laws.FnReadSpace': WHATEVER THE INPUT: true; the input reads as it did. -/
def fnReadSpaceSpec : ChangeSpec := { name := "fnReadSpace", fn := fun _ => fun
  | [d] => { results := [.lit (.bool true)], args := [d] }
  | _ => none }
def fnReadSpaceRow : OpenClaim := { program := "ytchhjooifjcnkaa", sum := "6c0b32937a1deb485b5b02a5e9291d41a97dd5e4406a621cb7abae4f1404d410", func := "given.example/pub-bosquet/laws.FnReadSpace", spec := "fnReadSpace", apart := false }
def FnReadSpaceSaid : Prop := fnReadSpaceRow.holds Try.pinned (OpenSpec.ofChange fnReadSpaceSpec)

/-- ITS FALSE NEIGHBOUR: 'it returns false'. Refute it at one input. -/
def fnReadSpaceWrong : ChangeSpec := { name := "fnReadSpace", fn := fun _ => fun
  | [d] => { results := [.lit (.bool false)], args := [d] }
  | _ => none }
def FnReadSpaceWrongFalsely : Prop := fnReadSpaceRow.holds Try.pinned (OpenSpec.ofChange fnReadSpaceWrong)

/-- 'laws.FnAttrsSet': WHATEVER THE INPUT: true; the input reads as it did. -/
def fnAttrsSetSpec : ChangeSpec := { name := "fnAttrsSet", fn := fun _ => fun
  | [d1, d2, d3] => { results := [.lit (.bool true)], args := [d1, d2, d3] }
  | _ => none }
def fnAttrsSetRow : OpenClaim := { program := "ytchhjooifjcnkaa", sum := "6c0b32937a1deb485b5b02a5e9291d41a97dd5e4406a621cb7abae4f1404d410", func := "given.example/pub-bosquet/laws.FnAttrsSet", spec := "fnAttrsSet", apart := false }
def FnAttrsSetSaid : Prop := fnAttrsSetRow.holds Try.pinned (OpenSpec.ofChange fnAttrsSetSpec)

/-- ITS FALSE NEIGHBOUR: 'it returns false'. Refute it at one input. -/
def fnAttrsSetWrong : ChangeSpec := { name := "fnAttrsSet", fn := fun _ => fun
  | [d1, d2, d3] => { results := [.lit (.bool false)], args := [d1, d2, d3] }
  | _ => none }
def FnAttrsSetWrongFalsely : Prop := fnAttrsSetRow.holds Try.pinned (OpenSpec.ofChange fnAttrsSetWrong)

/-- 'laws.FnIsRoot': WHATEVER THE INPUT: true; the input reads as it did. -/
def fnIsRootSpec : ChangeSpec := { name := "fnIsRoot", fn := fun _ => fun
  | [d1, d2] => { results := [.lit (.bool true)], args := [d1, d2] }
  | _ => none }
def fnIsRootRow : OpenClaim := { program := "ytchhjooifjcnkaa", sum := "6c0b32937a1deb485b5b02a5e9291d41a97dd5e4406a621cb7abae4f1404d410", func := "given.example/pub-bosquet/laws.FnIsRoot", spec := "fnIsRoot", recurses := true, apart := false }
def FnIsRootSaid : Prop := fnIsRootRow.holds Try.pinned (OpenSpec.ofChange fnIsRootSpec)

/-- ITS FALSE NEIGHBOUR: 'it returns false'. Refute it at one input. -/
def fnIsRootWrong : ChangeSpec := { name := "fnIsRoot", fn := fun _ => fun
  | [d1, d2] => { results := [.lit (.bool false)], args := [d1, d2] }
  | _ => none }
def FnIsRootWrongFalsely : Prop := fnIsRootRow.holds Try.pinned (OpenSpec.ofChange fnIsRootWrong)

/-- 'laws.FnIsLang': WHATEVER THE INPUT: true; the input reads as it did. -/
def fnIsLangSpec : ChangeSpec := { name := "fnIsLang", fn := fun _ => fun
  | [d1, d2, d3] => { results := [.lit (.bool true)], args := [d1, d2, d3] }
  | _ => none }
def fnIsLangRow : OpenClaim := { program := "ytchhjooifjcnkaa", sum := "6c0b32937a1deb485b5b02a5e9291d41a97dd5e4406a621cb7abae4f1404d410", func := "given.example/pub-bosquet/laws.FnIsLang", spec := "fnIsLang", unfollowed := true, recurses := true, apart := false }
def FnIsLangSaid : Prop := fnIsLangRow.holds Try.pinned (OpenSpec.ofChange fnIsLangSpec)

/-- ITS FALSE NEIGHBOUR: 'it returns false'. Refute it at one input. -/
def fnIsLangWrong : ChangeSpec := { name := "fnIsLang", fn := fun _ => fun
  | [d1, d2, d3] => { results := [.lit (.bool false)], args := [d1, d2, d3] }
  | _ => none }
def FnIsLangWrongFalsely : Prop := fnIsLangRow.holds Try.pinned (OpenSpec.ofChange fnIsLangWrong)

/-- 'laws.FnIsClass': WHATEVER THE INPUT: true; the input reads as it did. -/
def fnIsClassSpec : ChangeSpec := { name := "fnIsClass", fn := fun _ => fun
  | [d1, d2, d3] => { results := [.lit (.bool true)], args := [d1, d2, d3] }
  | _ => none }
def fnIsClassRow : OpenClaim := { program := "ytchhjooifjcnkaa", sum := "6c0b32937a1deb485b5b02a5e9291d41a97dd5e4406a621cb7abae4f1404d410", func := "given.example/pub-bosquet/laws.FnIsClass", spec := "fnIsClass", unfollowed := true, recurses := true, apart := false }
def FnIsClassSaid : Prop := fnIsClassRow.holds Try.pinned (OpenSpec.ofChange fnIsClassSpec)

/-- ITS FALSE NEIGHBOUR: 'it returns false'. Refute it at one input. -/
def fnIsClassWrong : ChangeSpec := { name := "fnIsClass", fn := fun _ => fun
  | [d1, d2, d3] => { results := [.lit (.bool false)], args := [d1, d2, d3] }
  | _ => none }
def FnIsClassWrongFalsely : Prop := fnIsClassRow.holds Try.pinned (OpenSpec.ofChange fnIsClassWrong)

/- THE SECOND FORM. 'bulk': how many values and letters a reading holds, each counted each time it is reached (what is shared counts as often as it is met; a slice's spare places count too). A statement '..UptoSaid' is the law's where the arguments, and the package variables that the reading takes, are together of bulk at most 1048576: NARROWER than '..Said'. Prove '..Said' where nothing that the law and all that it calls make is longer than what came in: it says more and counts as full. Else prove '..UptoSaid'. A law counts once. -/
mutual
def uptoBulk {H : Type} : DataW H → Nat
  | .lit (.string bytes) => bytes.length + 1
  | .lit _ => 1
  | .nil => 1
  | .ptr d => uptoBulk d + 1
  | .slice elems spare => uptoBulkAll elems + uptoBulkAll spare + 1
  | .agg parts => uptoBulkAll parts + 1
  | .iface _ d => uptoBulk d + 1
  | .map entries => uptoBulkEntries entries + 1
  | .held _ => 1
def uptoBulkAll {H : Type} : List (DataW H) → Nat
  | [] => 0
  | d :: r => uptoBulk d + uptoBulkAll r
def uptoBulkEntries {H : Type} : List (Lit × DataW H) → Nat
  | [] => 0
  | x :: r => uptoBulkEntry x + uptoBulkEntries r
def uptoBulkEntry {H : Type} : Lit × DataW H → Nat
  | (.string bytes, d) => bytes.length + uptoBulk d + 1
  | (_, d) => uptoBulk d + 1
 end
def uptoSmall : (H : Type) → List (DataW H) → Bool := fun _ ds => decide (uptoBulkAll ds ≤ 1048576)
def OpenSpec.upto (s : _root_.Go.ChangeSpec) : _root_.Go.OpenSpec := { _root_.Go.OpenSpec.ofChange s with cond := some uptoSmall }

/-- 'laws.FnSpecificOrder', WHERE WHAT IT READS IS OF BULK AT MOST 1048576: true; the input reads as it did. -/
def fnSpecificOrderUptoRow : OpenClaim := { program := "ytchhjooifjcnkaa", sum := "6c0b32937a1deb485b5b02a5e9291d41a97dd5e4406a621cb7abae4f1404d410", func := "given.example/pub-bosquet/laws.FnSpecificOrder", spec := "fnSpecificOrder", apart := false, narrowed := true }
def FnSpecificOrderUptoSaid : Prop := fnSpecificOrderUptoRow.holds Try.pinned (OpenSpec.upto fnSpecificOrderSpec)

/-- 'laws.FnReadSpace', WHERE WHAT IT READS IS OF BULK AT MOST 1048576: true; the input reads as it did. -/
def fnReadSpaceUptoRow : OpenClaim := { program := "ytchhjooifjcnkaa", sum := "6c0b32937a1deb485b5b02a5e9291d41a97dd5e4406a621cb7abae4f1404d410", func := "given.example/pub-bosquet/laws.FnReadSpace", spec := "fnReadSpace", apart := false, narrowed := true }
def FnReadSpaceUptoSaid : Prop := fnReadSpaceUptoRow.holds Try.pinned (OpenSpec.upto fnReadSpaceSpec)

/-- 'laws.FnAttrsSet', WHERE WHAT IT READS IS OF BULK AT MOST 1048576: true; the input reads as it did. -/
def fnAttrsSetUptoRow : OpenClaim := { program := "ytchhjooifjcnkaa", sum := "6c0b32937a1deb485b5b02a5e9291d41a97dd5e4406a621cb7abae4f1404d410", func := "given.example/pub-bosquet/laws.FnAttrsSet", spec := "fnAttrsSet", apart := false, narrowed := true }
def FnAttrsSetUptoSaid : Prop := fnAttrsSetUptoRow.holds Try.pinned (OpenSpec.upto fnAttrsSetSpec)

/-- 'laws.FnIsRoot', WHERE WHAT IT READS IS OF BULK AT MOST 1048576: true; the input reads as it did. -/
def fnIsRootUptoRow : OpenClaim := { program := "ytchhjooifjcnkaa", sum := "6c0b32937a1deb485b5b02a5e9291d41a97dd5e4406a621cb7abae4f1404d410", func := "given.example/pub-bosquet/laws.FnIsRoot", spec := "fnIsRoot", recurses := true, apart := false, narrowed := true }
def FnIsRootUptoSaid : Prop := fnIsRootUptoRow.holds Try.pinned (OpenSpec.upto fnIsRootSpec)

/-- 'laws.FnIsLang', WHERE WHAT IT READS IS OF BULK AT MOST 1048576: true; the input reads as it did. -/
def fnIsLangUptoRow : OpenClaim := { program := "ytchhjooifjcnkaa", sum := "6c0b32937a1deb485b5b02a5e9291d41a97dd5e4406a621cb7abae4f1404d410", func := "given.example/pub-bosquet/laws.FnIsLang", spec := "fnIsLang", unfollowed := true, recurses := true, apart := false, narrowed := true }
def FnIsLangUptoSaid : Prop := fnIsLangUptoRow.holds Try.pinned (OpenSpec.upto fnIsLangSpec)

/-- 'laws.FnIsClass', WHERE WHAT IT READS IS OF BULK AT MOST 1048576: true; the input reads as it did. -/
def fnIsClassUptoRow : OpenClaim := { program := "ytchhjooifjcnkaa", sum := "6c0b32937a1deb485b5b02a5e9291d41a97dd5e4406a621cb7abae4f1404d410", func := "given.example/pub-bosquet/laws.FnIsClass", spec := "fnIsClass", unfollowed := true, recurses := true, apart := false, narrowed := true }
def FnIsClassUptoSaid : Prop := fnIsClassUptoRow.holds Try.pinned (OpenSpec.upto fnIsClassSpec)

end Rows
end Go.Proofs.Ytchhjooifjcnkaa
