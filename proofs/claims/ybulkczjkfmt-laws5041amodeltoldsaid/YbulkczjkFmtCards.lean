/-
  DERIVED. GIVEN WITH THE SEED: THE CARDS: each row of YbulkczjkFmtRows.lean that lists a variable, with what it lists TIED to the program's text (the seventh form; the later family's looks); each row that meets fmt, with fmt's text TOLD by the authors' own Lean function (tested against real Go, not proved from fmt's source: count such statements apart). THE CARD IS WHAT COUNTS. Prove the row's statement (the work); the ties are given (YbulkczjkFmtTie.lean); close each card by the builder's one call (the guide's Derived/Test/ToyasCard.lean, 'card_holds'). Laid BY PROGRAM, IN A SANDBOX (cutbox-door.mjs). By AI agents, Wed Nov 11 2026. No macro, syntax, notation, axiom, sorry.
-/
import Derived.Test.YbulkczjkFmtRows
import GoSem.ClaimSeven
namespace Go.Proofs.YbulkczjkFmt
namespace Rows

/-- THE TOLD CARD OF 'precedent.LawS5041AModel'. -/
def lawS5041AModelCard : Claim7 := { stood := { row := lawS5041AModelRow, standIns := [], harness := (true, "a373cae9ee204b4a91d1db3894f9512bf034374c40cd6ad74bae4da0fbc70929"), looks := false }, told := true, goes := false }
def LawS5041AModelToldSaid : Prop := Claim7.holds Ybaf.pinned (.plain (OpenSpec.ofChange lawS5041AModelSpec)) lawS5041AModelCard
/-- ITS FALSE NEIGHBOUR. Refute it at one input. -/
def LawS5041AModelToldWrongFalsely : Prop := Claim7.holds Ybaf.pinned (.plain (OpenSpec.ofChange lawS5041AModelWrong)) lawS5041AModelCard

/-- THE TOLD CARD OF 'precedent.LawS5041AUnknown'. -/
def lawS5041AUnknownCard : Claim7 := { stood := { row := lawS5041AUnknownRow, standIns := [], harness := (true, "a373cae9ee204b4a91d1db3894f9512bf034374c40cd6ad74bae4da0fbc70929"), looks := false }, told := true, goes := false }
def LawS5041AUnknownToldSaid : Prop := Claim7.holds Ybaf.pinned (.plain (OpenSpec.ofChange lawS5041AUnknownSpec)) lawS5041AUnknownCard
/-- ITS FALSE NEIGHBOUR. Refute it at one input. -/
def LawS5041AUnknownToldWrongFalsely : Prop := Claim7.holds Ybaf.pinned (.plain (OpenSpec.ofChange lawS5041AUnknownWrong)) lawS5041AUnknownCard

/-- THE TOLD CARD OF 'precedent.LawS5041BRoundTrip'. -/
def lawS5041BRoundTripCard : Claim7 := { stood := { row := lawS5041BRoundTripRow, standIns := [], harness := (true, "a373cae9ee204b4a91d1db3894f9512bf034374c40cd6ad74bae4da0fbc70929"), looks := false }, told := true, goes := false }
def LawS5041BRoundTripToldSaid : Prop := Claim7.holds Ybaf.pinned (.plain (OpenSpec.ofChange lawS5041BRoundTripSpec)) lawS5041BRoundTripCard
/-- ITS FALSE NEIGHBOUR. Refute it at one input. -/
def LawS5041BRoundTripToldWrongFalsely : Prop := Claim7.holds Ybaf.pinned (.plain (OpenSpec.ofChange lawS5041BRoundTripWrong)) lawS5041BRoundTripCard
end Rows
end Go.Proofs.YbulkczjkFmt
