/-
  DERIVED. GIVEN WITH THE SEED: THE CARDS: each row of YtglcncfjagfodaaDoorRows.lean that lists a variable, with what it lists TIED to the program's text (the seventh form; the later family's looks); each row that meets fmt, with fmt's text TOLD by the authors' own Lean function (tested against real Go, not proved from fmt's source: count such statements apart). THE CARD IS WHAT COUNTS. Prove the row's statement (the work); the ties are given (YtglcncfjagfodaaDoorTie.lean); close each card by the builder's one call (the guide's Derived/Test/ToyasCard.lean, 'card_holds'). Laid BY PROGRAM, IN A SANDBOX (cutbox-door.mjs). By AI agents, Wed Nov 11 2026. No macro, syntax, notation, axiom, sorry.
-/
import Derived.Test.YtglcncfjagfodaaDoorRows
import GoSem.ClaimSeven
namespace Go.Proofs.YtglcncfjagfodaaDoor
namespace Rows

/-- THE TIED CARD OF 'laws.FnNthBack'. -/
def fnNthBackCard : Claim7 := { stood := { row := fnNthBackRow, standIns := [], harness := (true, "c6c0a72af98810665bcaf74563ad0241f3ff163482acb9fe418b5c386ccc6f46"), looks := true }, kinds := [], alts := [], laidByText := true, laidKinds := [.data, .data, .data, .sentinel, .sentinel], laidTests := true, laidLooks := .later }
def FnNthBackCardSaid : Prop := Claim7.holds Tryd.pinned (.plain (OpenSpec.ofChange fnNthBackSpec)) fnNthBackCard

/-- THE SECOND FORM's CARD OF 'laws.FnNthBack'. -/
def fnNthBackUptoCard : Claim7 := { stood := { row := fnNthBackUptoRow, standIns := [], harness := (true, "c6c0a72af98810665bcaf74563ad0241f3ff163482acb9fe418b5c386ccc6f46"), looks := true }, kinds := [], alts := [], laidByText := true, laidKinds := [.data, .data, .data, .sentinel, .sentinel], laidTests := true, laidLooks := .later }
def FnNthBackUptoCardSaid : Prop := Claim7.holds Tryd.pinned (.plain (OpenSpec.upto fnNthBackSpec)) fnNthBackUptoCard
end Rows
end Go.Proofs.YtglcncfjagfodaaDoor
