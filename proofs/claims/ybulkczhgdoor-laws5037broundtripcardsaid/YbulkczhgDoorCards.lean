/-
  DERIVED. GIVEN WITH THE SEED: THE CARDS: each row of YbulkczhgDoorRows.lean that lists a variable, with what it lists TIED to the program's text (the seventh form; the later family's looks); each row that meets fmt, with fmt's text TOLD by the authors' own Lean function (tested against real Go, not proved from fmt's source: count such statements apart). THE CARD IS WHAT COUNTS. Prove the row's statement (the work); the ties are given (YbulkczhgDoorTie.lean); close each card by the builder's one call (the guide's Derived/Test/ToyasCard.lean, 'card_holds'). Laid BY PROGRAM, IN A SANDBOX (cutbox-door.mjs). By AI agents, Wed Nov 11 2026. No macro, syntax, notation, axiom, sorry.
-/
import Derived.Test.YbulkczhgDoorRows
import GoSem.ClaimSeven
namespace Go.Proofs.YbulkczhgDoor
namespace Rows

/-- THE TIED CARD OF 'kvstore.LawS5037BModel'. -/
def lawS5037BModelCard : Claim7 := { stood := { row := lawS5037BModelRow, standIns := [], harness := (true, "2c259d8d6151cf34b3f40edb45a95acb123b461c0e688329c23e7f0db286feb2"), looks := true }, kinds := [], alts := [], laidByText := true, laidKinds := [.sentinel, .sentinel], laidTests := true, laidLooks := .later }
def LawS5037BModelCardSaid : Prop := Claim7.holds Ybad.pinned (.plain (OpenSpec.ofChange lawS5037BModelSpec)) lawS5037BModelCard

/-- THE TIED CARD OF 'kvstore.LawS5037BRoundTrip'. -/
def lawS5037BRoundTripCard : Claim7 := { stood := { row := lawS5037BRoundTripRow, standIns := [], harness := (true, "2c259d8d6151cf34b3f40edb45a95acb123b461c0e688329c23e7f0db286feb2"), looks := true }, kinds := [], alts := [], laidByText := true, laidKinds := [.sentinel, .sentinel], laidTests := true, laidLooks := .later }
def LawS5037BRoundTripCardSaid : Prop := Claim7.holds Ybad.pinned (.plain (OpenSpec.ofChange lawS5037BRoundTripSpec)) lawS5037BRoundTripCard
end Rows
end Go.Proofs.YbulkczhgDoor
