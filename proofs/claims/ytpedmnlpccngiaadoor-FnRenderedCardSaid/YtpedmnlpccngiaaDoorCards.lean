/-
  DERIVED. GIVEN WITH THE SEED: THE CARDS: each row of YtpedmnlpccngiaaDoorRows.lean that lists a variable, with what it lists TIED to the program's text (the seventh form; the later family's looks); each row that meets fmt, with fmt's text TOLD by the authors' own Lean function (tested against real Go, not proved from fmt's source: count such statements apart). THE CARD IS WHAT COUNTS. Prove the row's statement (the work); the ties are given (YtpedmnlpccngiaaDoorTie.lean); close each card by the builder's one call (the guide's Derived/Test/ToyasCard.lean, 'card_holds'). Laid BY PROGRAM, IN A SANDBOX (cutbox-door.mjs). By AI agents, Wed Nov 11 2026. No macro, syntax, notation, axiom, sorry.
-/
import Derived.Test.YtpedmnlpccngiaaDoorRows
import GoSem.ClaimSeven
namespace Go.Proofs.YtpedmnlpccngiaaDoor
namespace Rows

/-- THE TIED CARD OF 'laws.FnOuter'. -/
def fnOuterCard : Claim7 := { stood := { row := fnOuterRow, standIns := [], harness := (true, "bc01e7d34bf8c56c455d20dc135d179bad8b73a6af9ca30b6adbd0d70da81903"), looks := true }, kinds := [], alts := [], laidByText := true, laidKinds := [.data, .sentinel, .mapped, .pinned], laidTests := true, laidLooks := .later }
def FnOuterCardSaid : Prop := Claim7.holds Tryd.pinned (.plain (OpenSpec.ofChange fnOuterSpec)) fnOuterCard

/-- THE TIED CARD OF 'laws.FnRendered'. -/
def fnRenderedCard : Claim7 := { stood := { row := fnRenderedRow, standIns := [], harness := (true, "bc01e7d34bf8c56c455d20dc135d179bad8b73a6af9ca30b6adbd0d70da81903"), looks := true }, kinds := [], alts := [], laidByText := true, laidKinds := [.data, .sentinel, .mapped, .pinned], laidTests := true, laidLooks := .later }
def FnRenderedCardSaid : Prop := Claim7.holds Tryd.pinned (.plain (OpenSpec.ofChange fnRenderedSpec)) fnRenderedCard

/-- THE SECOND FORM's CARD OF 'laws.FnOuter'. -/
def fnOuterUptoCard : Claim7 := { stood := { row := fnOuterUptoRow, standIns := [], harness := (true, "bc01e7d34bf8c56c455d20dc135d179bad8b73a6af9ca30b6adbd0d70da81903"), looks := true }, kinds := [], alts := [], laidByText := true, laidKinds := [.data, .sentinel, .mapped, .pinned], laidTests := true, laidLooks := .later }
def FnOuterUptoCardSaid : Prop := Claim7.holds Tryd.pinned (.plain (OpenSpec.upto fnOuterSpec)) fnOuterUptoCard

/-- THE SECOND FORM's CARD OF 'laws.FnRendered'. -/
def fnRenderedUptoCard : Claim7 := { stood := { row := fnRenderedUptoRow, standIns := [], harness := (true, "bc01e7d34bf8c56c455d20dc135d179bad8b73a6af9ca30b6adbd0d70da81903"), looks := true }, kinds := [], alts := [], laidByText := true, laidKinds := [.data, .sentinel, .mapped, .pinned], laidTests := true, laidLooks := .later }
def FnRenderedUptoCardSaid : Prop := Claim7.holds Tryd.pinned (.plain (OpenSpec.upto fnRenderedSpec)) fnRenderedUptoCard
end Rows
end Go.Proofs.YtpedmnlpccngiaaDoor
