/-
  DERIVED. GIVEN WITH THE SEED: THE CARDS: each row of YbulkczhuFmtRows.lean that lists a variable, with what it lists TIED to the program's text (the seventh form; the later family's looks); each row that meets fmt, with fmt's text TOLD by the authors' own Lean function (tested against real Go, not proved from fmt's source: count such statements apart). THE CARD IS WHAT COUNTS. Prove the row's statement (the work); the ties are given (YbulkczhuFmtTie.lean); close each card by the builder's one call (the guide's Derived/Test/ToyasCard.lean, 'card_holds'). Laid BY PROGRAM, IN A SANDBOX (cutbox-door.mjs). By AI agents, Wed Nov 11 2026. No macro, syntax, notation, axiom, sorry.
-/
import Derived.Test.YbulkczhuFmtRows
import GoSem.ClaimSeven
namespace Go.Proofs.YbulkczhuFmt
namespace Rows

/-- THE TOLD AND TIED CARD OF 'store.LawS5038AModel'. -/
def lawS5038AModelCard : Claim7 := { stood := { row := lawS5038AModelRow, standIns := [], harness := (true, "48f4da18d17ea403604775f05a8f660e4870edf541b220d9d666ca4d51172f44"), looks := true }, told := true, laidByText := true, laidKinds := [.sentinel], laidTests := true, laidLooks := .later, goes := false }
def LawS5038AModelToldSaid : Prop := Claim7.holds Ybaf.pinned (.plain (OpenSpec.ofChange lawS5038AModelSpec)) lawS5038AModelCard
/-- ITS FALSE NEIGHBOUR. Refute it at one input. -/
def LawS5038AModelToldWrongFalsely : Prop := Claim7.holds Ybaf.pinned (.plain (OpenSpec.ofChange lawS5038AModelWrong)) lawS5038AModelCard

/-- THE TOLD AND TIED CARD OF 'store.LawS5038ABuilt'. -/
def lawS5038ABuiltCard : Claim7 := { stood := { row := lawS5038ABuiltRow, standIns := [], harness := (true, "48f4da18d17ea403604775f05a8f660e4870edf541b220d9d666ca4d51172f44"), looks := true }, told := true, laidByText := true, laidKinds := [.sentinel], laidTests := true, laidLooks := .later, goes := false }
def LawS5038ABuiltToldSaid : Prop := Claim7.holds Ybaf.pinned (.plain (OpenSpec.ofChange lawS5038ABuiltSpec)) lawS5038ABuiltCard
/-- ITS FALSE NEIGHBOUR. Refute it at one input. -/
def LawS5038ABuiltToldWrongFalsely : Prop := Claim7.holds Ybaf.pinned (.plain (OpenSpec.ofChange lawS5038ABuiltWrong)) lawS5038ABuiltCard
end Rows
end Go.Proofs.YbulkczhuFmt
