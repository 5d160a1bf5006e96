/-
  DERIVED. GIVEN WITH THE SEED: THE CARDS: each row of YtcjpnnmclhdjbaaGreatDoorRows.lean that lists a variable, with what it lists TIED to the program's text (the seventh form; the later family's looks); each row that meets fmt, with fmt's text TOLD by the authors' own Lean function (tested against real Go, not proved from fmt's source: count such statements apart). THE CARD IS WHAT COUNTS. Prove the row's statement (the work); the ties are given (YtcjpnnmclhdjbaaGreatDoorTie.lean); close each card by the builder's one call (the guide's Derived/Test/ToyasCard.lean, 'card_holds'). Laid BY PROGRAM, IN A SANDBOX (cutbox-door.mjs). By AI agents, Wed Nov 11 2026. No macro, syntax, notation, axiom, sorry.
-/
import Derived.Test.YtcjpnnmclhdjbaaGreatDoorRows
import GoSem.ClaimSeven
namespace Go.Proofs.YtcjpnnmclhdjbaaGreatDoor
namespace Rows

/-- THE TIED CARD OF 'laws.FnReadAttribute'. -/
def fnReadAttributeCard : Claim7 := { stood := { row := fnReadAttributeRow, standIns := [], harness := (true, "52a4a9da6240f0b9cb075b61f4bb4f20d4478a93749dcc70855f64231d453023"), looks := true }, kinds := [], alts := [], laidByText := true, laidKinds := [.data, .data, .data, .sentinel, .sentinel], laidTests := true, laidLooks := .later }
def FnReadAttributeCardSaid : Prop := Claim7.holds Tryz.pinned (.plain (OpenSpec.ofChange fnReadAttributeSpec)) fnReadAttributeCard

/-- THE SECOND FORM's CARD OF 'laws.FnReadAttribute'. -/
def fnReadAttributeUptoCard : Claim7 := { stood := { row := fnReadAttributeUptoRow, standIns := [], harness := (true, "52a4a9da6240f0b9cb075b61f4bb4f20d4478a93749dcc70855f64231d453023"), looks := true }, kinds := [], alts := [], laidByText := true, laidKinds := [.data, .data, .data, .sentinel, .sentinel], laidTests := true, laidLooks := .later }
def FnReadAttributeUptoCardSaid : Prop := Claim7.holds Tryz.pinned (.plain (OpenSpec.upto fnReadAttributeSpec)) fnReadAttributeUptoCard
end Rows
end Go.Proofs.YtcjpnnmclhdjbaaGreatDoor
