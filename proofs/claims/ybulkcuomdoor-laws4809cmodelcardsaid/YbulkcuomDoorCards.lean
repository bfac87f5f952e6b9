/-
  DERIVED. GIVEN WITH THE SEED: THE CARDS: each row of YbulkcuomDoorRows.lean that lists a variable, with what it lists TIED to the program's text (the seventh form; the later family's looks); each row that meets fmt, with fmt's text TOLD by the authors' own Lean function (tested against real Go, not proved from fmt's source: count such statements apart). THE CARD IS WHAT COUNTS. Prove the row's statement (the work); the ties are given (YbulkcuomDoorTie.lean); close each card by the builder's one call (the guide's Derived/Test/ToyasCard.lean, 'card_holds'). Laid BY PROGRAM, IN A SANDBOX (cutbox-door.mjs). By AI agents, Wed Nov 11 2026. No macro, syntax, notation, axiom, sorry.
-/
import Derived.Test.YbulkcuomDoorRows
import GoSem.ClaimSeven
namespace Go.Proofs.YbulkcuomDoor
namespace Rows

/-- THE TIED CARD OF 'trace.LawS4809BDecides'. -/
def lawS4809BDecidesCard : Claim7 := { stood := { row := lawS4809BDecidesRow, standIns := [], harness := (true, "ca65726511016e9e2bfd12bfde79524675da24467dee6b5fff8498d97b59684e"), looks := false }, kinds := [], alts := [], laidByText := true, laidKinds := [.data, .sentinel, .pinned, .pinned, .pinned, .pinned, .pinned, .pinned], laidTests := true, laidLooks := .later }
def LawS4809BDecidesCardSaid : Prop := Claim7.holds Ybad.pinned (.plain (OpenSpec.ofChange lawS4809BDecidesSpec)) lawS4809BDecidesCard

/-- THE TIED CARD OF 'trace.LawS4809BRoundTrip'. -/
def lawS4809BRoundTripCard : Claim7 := { stood := { row := lawS4809BRoundTripRow, standIns := [], harness := (true, "ca65726511016e9e2bfd12bfde79524675da24467dee6b5fff8498d97b59684e"), looks := false }, kinds := [], alts := [], laidByText := true, laidKinds := [.data, .sentinel, .pinned, .pinned, .pinned, .pinned, .pinned, .pinned], laidTests := true, laidLooks := .later }
def LawS4809BRoundTripCardSaid : Prop := Claim7.holds Ybad.pinned (.plain (OpenSpec.ofChange lawS4809BRoundTripSpec)) lawS4809BRoundTripCard

/-- THE TIED CARD OF 'clock.LawS4809CModel'. -/
def lawS4809CModelCard : Claim7 := { stood := { row := lawS4809CModelRow, standIns := [], harness := (true, "ca65726511016e9e2bfd12bfde79524675da24467dee6b5fff8498d97b59684e"), looks := false }, kinds := [], alts := [], laidByText := true, laidKinds := [.data, .data, .data], laidTests := true, laidLooks := .later }
def LawS4809CModelCardSaid : Prop := Claim7.holds Ybad.pinned (.plain (OpenSpec.ofChange lawS4809CModelSpec)) lawS4809CModelCard

/-- THE TIED CARD OF 'clock.LawS4809CParseBack'. -/
def lawS4809CParseBackCard : Claim7 := { stood := { row := lawS4809CParseBackRow, standIns := [], harness := (true, "ca65726511016e9e2bfd12bfde79524675da24467dee6b5fff8498d97b59684e"), looks := false }, kinds := [], alts := [], laidByText := true, laidKinds := [.data, .data, .data], laidTests := true, laidLooks := .later }
def LawS4809CParseBackCardSaid : Prop := Claim7.holds Ybad.pinned (.plain (OpenSpec.ofChange lawS4809CParseBackSpec)) lawS4809CParseBackCard
end Rows
end Go.Proofs.YbulkcuomDoor
