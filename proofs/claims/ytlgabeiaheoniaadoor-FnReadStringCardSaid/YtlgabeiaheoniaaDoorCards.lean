/-
  DERIVED. GIVEN WITH THE SEED: THE CARDS: each row of YtlgabeiaheoniaaDoorRows.lean that lists a variable, with what it lists TIED to the program's text (the seventh form; the later family's looks); each row that meets fmt, with fmt's text TOLD by the authors' own Lean function (tested against real Go, not proved from fmt's source: count such statements apart). THE CARD IS WHAT COUNTS. Prove the row's statement (the work); the ties are given (YtlgabeiaheoniaaDoorTie.lean); close each card by the builder's one call (the guide's Derived/Test/ToyasCard.lean, 'card_holds'). Laid BY PROGRAM, IN A SANDBOX (cutbox-door.mjs). By AI agents, Wed Nov 11 2026. No macro, syntax, notation, axiom, sorry.
-/
import Derived.Test.YtlgabeiaheoniaaDoorRows
import GoSem.ClaimSeven
namespace Go.Proofs.YtlgabeiaheoniaaDoor
namespace Rows

/-- THE TIED CARD OF 'laws.FnReadName'. -/
def fnReadNameCard : Claim7 := { stood := { row := fnReadNameRow, standIns := [], harness := (true, "5af1a2c5ade0e16aef2635156cf8f51bf6d5a782fa3ce806c0353dd7eacf01ec"), looks := true }, kinds := [], alts := [], laidByText := true, laidKinds := [.data, .data, .data, .sentinel, .sentinel], laidTests := true, laidLooks := .later }
def FnReadNameCardSaid : Prop := Claim7.holds Tryd.pinned (.plain (OpenSpec.ofChange fnReadNameSpec)) fnReadNameCard

/-- THE TIED CARD OF 'laws.FnReadString'. -/
def fnReadStringCard : Claim7 := { stood := { row := fnReadStringRow, standIns := [], harness := (true, "5af1a2c5ade0e16aef2635156cf8f51bf6d5a782fa3ce806c0353dd7eacf01ec"), looks := true }, kinds := [], alts := [], laidByText := true, laidKinds := [.data, .data, .data, .sentinel, .sentinel], laidTests := true, laidLooks := .later }
def FnReadStringCardSaid : Prop := Claim7.holds Tryd.pinned (.plain (OpenSpec.ofChange fnReadStringSpec)) fnReadStringCard

/-- THE SECOND FORM's CARD OF 'laws.FnReadName'. -/
def fnReadNameUptoCard : Claim7 := { stood := { row := fnReadNameUptoRow, standIns := [], harness := (true, "5af1a2c5ade0e16aef2635156cf8f51bf6d5a782fa3ce806c0353dd7eacf01ec"), looks := true }, kinds := [], alts := [], laidByText := true, laidKinds := [.data, .data, .data, .sentinel, .sentinel], laidTests := true, laidLooks := .later }
def FnReadNameUptoCardSaid : Prop := Claim7.holds Tryd.pinned (.plain (OpenSpec.upto fnReadNameSpec)) fnReadNameUptoCard

/-- THE SECOND FORM's CARD OF 'laws.FnReadString'. -/
def fnReadStringUptoCard : Claim7 := { stood := { row := fnReadStringUptoRow, standIns := [], harness := (true, "5af1a2c5ade0e16aef2635156cf8f51bf6d5a782fa3ce806c0353dd7eacf01ec"), looks := true }, kinds := [], alts := [], laidByText := true, laidKinds := [.data, .data, .data, .sentinel, .sentinel], laidTests := true, laidLooks := .later }
def FnReadStringUptoCardSaid : Prop := Claim7.holds Tryd.pinned (.plain (OpenSpec.upto fnReadStringSpec)) fnReadStringUptoCard
end Rows
end Go.Proofs.YtlgabeiaheoniaaDoor
