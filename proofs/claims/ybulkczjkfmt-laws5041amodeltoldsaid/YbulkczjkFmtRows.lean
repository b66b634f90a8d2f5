/-
  No cell of these rows narrows 'for every input' (looked for: loops, veiled, ifaces, maps, wideKeys, modest, calm, conditions, laid).
  DERIVED. THE GIVEN ROWS OF THIS SEAT. 3 by the template 'for every input the law returns true; each argument reads behind the call as it read before'; 0 by the template 'total and deterministic' (their statements: YbulkczjkFmtTotals.lean).
  GIVEN WITH THE SEED: the statements are not yours to turn. If you find one false, say at which input.
  Laid BY PROGRAM, IN A SANDBOX (cutbox-rows.mjs): the forced cells as the released guide's own fill.sh prints them over the translation c33624cd5bd2d6aa… (all of the seat's roots in one cut). By AI agents, Wed Nov 11 2026. No macro, syntax, notation, axiom, sorry.
-/
import Derived.Test.YbulkczjkFmtChecked
import GoSem.Claim
import GoSem.ClaimJoined
import GoSem.ClaimMapViews
import Derived.JoinedTies
import Derived.KernelRfl
namespace Go.Proofs.YbulkczjkFmt
/- THE CELL 'sum', in the pinned program and in every row, IS THE sha256 OF THE DUMP (.gsa) THAT YbulkczjkFmtProg.lean LOADS. Nothing in Lean hashes anything: it is a label: what it is worth is what the hold of that sum in a sandbox is worth. -/
noncomputable def Ybaf.pinned : Pinned := { name := "ybulkczjkfmt", sum := "c33624cd5bd2d6aadf7ef5f4f8c156124fdcc64d902ba0ad62b4c30b1e1862e8", checked := Ybaf.checked }
namespace Rows
def none {H : Type} : Left H := { results := [], args := [] }

/-- 'precedent.LawS5041AModel': WHATEVER THE INPUT: true; the input reads as it did. -/
def lawS5041AModelSpec : ChangeSpec := { name := "lawS5041AModel", fn := fun _ => fun
  | [d1, d2, d3, d4, d5] => { results := [.lit (.bool true)], args := [d1, d2, d3, d4, d5] }
  | _ => none }
def lawS5041AModelRow : OpenClaim := { program := "ybulkczjkfmt", sum := "c33624cd5bd2d6aadf7ef5f4f8c156124fdcc64d902ba0ad62b4c30b1e1862e8", func := "example.com/precedent/precedent.LawS5041AModel", spec := "lawS5041AModel", stops := ["fmt.errorf"], inPlace := ["fmt.errorf"], unfollowed := true, recurses := true, apart := false }
/-- NO THEOREM (fmt's text is open here; it may be false): for the released tool's asking of the row's closed facts alone. THE STATEMENT IS 'LawS5041AModelToldSaid' (YbulkczjkFmtCards.lean). -/
def LawS5041AModelFormAsk : Prop := lawS5041AModelRow.holds Ybaf.pinned (OpenSpec.ofChange lawS5041AModelSpec)

/-- ITS FALSE NEIGHBOUR: 'it returns false'. Refute it at one input. -/
def lawS5041AModelWrong : ChangeSpec := { name := "lawS5041AModel", fn := fun _ => fun
  | [d1, d2, d3, d4, d5] => { results := [.lit (.bool false)], args := [d1, d2, d3, d4, d5] }
  | _ => none }
def LawS5041AModelWrongFormAsk : Prop := lawS5041AModelRow.holds Ybaf.pinned (OpenSpec.ofChange lawS5041AModelWrong)

/-- 'precedent.LawS5041AUnknown': WHATEVER THE INPUT: true; the input reads as it did. -/
def lawS5041AUnknownSpec : ChangeSpec := { name := "lawS5041AUnknown", fn := fun _ => fun
  | [d1, d2, d3] => { results := [.lit (.bool true)], args := [d1, d2, d3] }
  | _ => none }
def lawS5041AUnknownRow : OpenClaim := { program := "ybulkczjkfmt", sum := "c33624cd5bd2d6aadf7ef5f4f8c156124fdcc64d902ba0ad62b4c30b1e1862e8", func := "example.com/precedent/precedent.LawS5041AUnknown", spec := "lawS5041AUnknown", stops := ["fmt.errorf"], inPlace := ["fmt.errorf"], unfollowed := true, recurses := true, apart := false }
/-- NO THEOREM (fmt's text is open here; it may be false): for the released tool's asking of the row's closed facts alone. THE STATEMENT IS 'LawS5041AUnknownToldSaid' (YbulkczjkFmtCards.lean). -/
def LawS5041AUnknownFormAsk : Prop := lawS5041AUnknownRow.holds Ybaf.pinned (OpenSpec.ofChange lawS5041AUnknownSpec)

/-- ITS FALSE NEIGHBOUR: 'it returns false'. Refute it at one input. -/
def lawS5041AUnknownWrong : ChangeSpec := { name := "lawS5041AUnknown", fn := fun _ => fun
  | [d1, d2, d3] => { results := [.lit (.bool false)], args := [d1, d2, d3] }
  | _ => none }
def LawS5041AUnknownWrongFormAsk : Prop := lawS5041AUnknownRow.holds Ybaf.pinned (OpenSpec.ofChange lawS5041AUnknownWrong)

/-- 'precedent.LawS5041BRoundTrip': WHATEVER THE INPUT: true; the input reads as it did. -/
def lawS5041BRoundTripSpec : ChangeSpec := { name := "lawS5041BRoundTrip", fn := fun _ => fun
  | [d1, d2] => { results := [.lit (.bool true)], args := [d1, d2] }
  | _ => none }
def lawS5041BRoundTripRow : OpenClaim := { program := "ybulkczjkfmt", sum := "c33624cd5bd2d6aadf7ef5f4f8c156124fdcc64d902ba0ad62b4c30b1e1862e8", func := "example.com/precedent/precedent.LawS5041BRoundTrip", spec := "lawS5041BRoundTrip", stops := ["fmt.errorf"], inPlace := ["fmt.errorf"], apart := false }
/-- NO THEOREM (fmt's text is open here; it may be false): for the released tool's asking of the row's closed facts alone. THE STATEMENT IS 'LawS5041BRoundTripToldSaid' (YbulkczjkFmtCards.lean). -/
def LawS5041BRoundTripFormAsk : Prop := lawS5041BRoundTripRow.holds Ybaf.pinned (OpenSpec.ofChange lawS5041BRoundTripSpec)

/-- ITS FALSE NEIGHBOUR: 'it returns false'. Refute it at one input. -/
def lawS5041BRoundTripWrong : ChangeSpec := { name := "lawS5041BRoundTrip", fn := fun _ => fun
  | [d1, d2] => { results := [.lit (.bool false)], args := [d1, d2] }
  | _ => none }
def LawS5041BRoundTripWrongFormAsk : Prop := lawS5041BRoundTripRow.holds Ybaf.pinned (OpenSpec.ofChange lawS5041BRoundTripWrong)

end Rows
end Go.Proofs.YbulkczjkFmt
