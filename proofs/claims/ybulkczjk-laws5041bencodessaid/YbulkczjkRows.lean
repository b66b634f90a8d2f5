/-
  No cell of these rows narrows 'for every input' (looked for: loops, veiled, ifaces, maps, wideKeys, modest, calm, conditions, laid).
  DERIVED. THE GIVEN ROWS OF THIS SEAT. 2 by the template 'for every input the law returns true; each argument reads behind the call as it read before'; 0 by the template 'total and deterministic' (their statements: YbulkczjkTotals.lean).
  GIVEN WITH THE SEED: the statements are not yours to turn. If you find one false, say at which input.
  Laid BY PROGRAM, IN A SANDBOX (cutbox-rows.mjs): the forced cells as the released guide's own fill.sh prints them over the translation b3015ebd70d6be7e… (all of the seat's roots in one cut). By AI agents, Wed Nov 11 2026. No macro, syntax, notation, axiom, sorry.
-/
import Derived.Test.YbulkczjkChecked
import GoSem.Claim
import GoSem.ClaimJoined
import GoSem.ClaimMapViews
import Derived.JoinedTies
import Derived.KernelRfl
namespace Go.Proofs.Ybulkczjk
/- THE CELL 'sum', in the pinned program and in every row, IS THE sha256 OF THE DUMP (.gsa) THAT YbulkczjkProg.lean LOADS. Nothing in Lean hashes anything: it is a label: what it is worth is what the hold of that sum in a sandbox is worth. -/
noncomputable def Yba.pinned : Pinned := { name := "ybulkczjk", sum := "b3015ebd70d6be7e53cc1e09eb3afcf16201b69d5e6607a1e7b4638712f973a6", checked := Yba.checked }
namespace Rows
def none {H : Type} : Left H := { results := [], args := [] }

/-- 'precedent.LawS5041BEncodes': WHATEVER THE INPUT: true; the input reads as it did. -/
def lawS5041BEncodesSpec : ChangeSpec := { name := "lawS5041BEncodes", fn := fun _ => fun
  | [d1, d2] => { results := [.lit (.bool true)], args := [d1, d2] }
  | _ => none }
def lawS5041BEncodesRow : OpenClaim := { program := "ybulkczjk", sum := "b3015ebd70d6be7e53cc1e09eb3afcf16201b69d5e6607a1e7b4638712f973a6", func := "example.com/precedent/precedent.LawS5041BEncodes", spec := "lawS5041BEncodes", plainKeys := false, apart := false }
def LawS5041BEncodesSaid : Prop := lawS5041BEncodesRow.holds Yba.pinned (OpenSpec.ofChange lawS5041BEncodesSpec)

/-- ITS FALSE NEIGHBOUR: 'it returns false'. Refute it at one input. -/
def lawS5041BEncodesWrong : ChangeSpec := { name := "lawS5041BEncodes", fn := fun _ => fun
  | [d1, d2] => { results := [.lit (.bool false)], args := [d1, d2] }
  | _ => none }
def LawS5041BEncodesWrongFalsely : Prop := lawS5041BEncodesRow.holds Yba.pinned (OpenSpec.ofChange lawS5041BEncodesWrong)

/-- 'precedent.LawS5041CQueue': WHATEVER THE INPUT: true; the input reads as it did. -/
def lawS5041CQueueSpec : ChangeSpec := { name := "lawS5041CQueue", fn := fun _ => fun
  | [d] => { results := [.lit (.bool true)], args := [d] }
  | _ => none }
def lawS5041CQueueRow : OpenClaim := { program := "ybulkczjk", sum := "b3015ebd70d6be7e53cc1e09eb3afcf16201b69d5e6607a1e7b4638712f973a6", func := "example.com/precedent/precedent.LawS5041CQueue", spec := "lawS5041CQueue", unfollowed := true, recurses := true, plainKeys := false, apart := false }
def LawS5041CQueueSaid : Prop := lawS5041CQueueRow.holds Yba.pinned (OpenSpec.ofChange lawS5041CQueueSpec)

/-- ITS FALSE NEIGHBOUR: 'it returns false'. Refute it at one input. -/
def lawS5041CQueueWrong : ChangeSpec := { name := "lawS5041CQueue", fn := fun _ => fun
  | [d] => { results := [.lit (.bool false)], args := [d] }
  | _ => none }
def LawS5041CQueueWrongFalsely : Prop := lawS5041CQueueRow.holds Yba.pinned (OpenSpec.ofChange lawS5041CQueueWrong)

end Rows
end Go.Proofs.Ybulkczjk
