/-
  NARROWER THAN 'FOR EVERY INPUT', by the rows' own cells (each row's printed sentence says how): LawS5038AModel: ifaces, laid · LawS5038ABuilt: ifaces, laid.
  DERIVED. THE GIVEN ROWS OF THIS SEAT. 2 by the template 'for every input the law returns true; each argument reads behind the call as it read before'; 0 by the template 'total and deterministic' (their statements: YbulkczhuFmtTotals.lean).
  GIVEN WITH THE SEED: the statements are not yours to turn. If you find one false, say at which input.
  Laid BY PROGRAM, IN A SANDBOX (cutbox-rows.mjs): the forced cells as the released guide's own fill.sh prints them over the translation 3c6e2de7d137d929… (all of the seat's roots in one cut). By AI agents, Wed Nov 11 2026. No macro, syntax, notation, axiom, sorry.
-/
import Derived.Test.YbulkczhuFmtChecked
import GoSem.Claim
import GoSem.ClaimJoined
import GoSem.ClaimMapViews
import Derived.JoinedTies
import Derived.KernelRfl
namespace Go.Proofs.YbulkczhuFmt
/- THE CELL 'sum', in the pinned program and in every row, IS THE sha256 OF THE DUMP (.gsa) THAT YbulkczhuFmtProg.lean LOADS. Nothing in Lean hashes anything: it is a label: what it is worth is what the hold of that sum in a sandbox is worth. -/
noncomputable def Ybaf.pinned : Pinned := { name := "ybulkczhufmt", sum := "3c6e2de7d137d929b5f5b4b4fdf9da7882cd446ac456c8d611489876891af629", checked := Ybaf.checked }
namespace Rows
def none {H : Type} : Left H := { results := [], args := [] }

/- WHAT THE LISTED PACKAGE-LEVEL VARIABLES READ AS WHEN THE CALL BEGINS. Each datum BY PROGRAM (the guide's laid-datum.mjs) off the statement by which the dump's own 'gosem.cut.vars' lays the variable. In a bare row this is a premise. The card (YbulkczhuFmtCards.lean) ties it to the program's text. -/
def laid_example_com_stowage_stowage_internal_store_ErrInvalidName {H : Type} : DataW H := .iface "*errors.errorString" (.ptr (.agg [.lit (.string [105, 110, 118, 97, 108, 105, 100, 32, 100, 101, 118, 105, 99, 101, 32, 110, 97, 109, 101])]))

/-- 'store.LawS5038AModel': WHATEVER THE INPUT: true; the input reads as it did. -/
def lawS5038AModelSpec : ChangeSpec := { name := "lawS5038AModel", vars := ["example.com/stowage/stowage/internal/store.ErrInvalidName"], fn := fun _ => fun
  | [d, g1] => { results := [.lit (.bool true)], args := [d], vars := [g1] }
  | _ => none }
def lawS5038AModelRow : OpenClaim := { program := "ybulkczhufmt", sum := "3c6e2de7d137d929b5f5b4b4fdf9da7882cd446ac456c8d611489876891af629", func := "example.com/stowage/stowage/internal/store.LawS5038AModel", spec := "lawS5038AModel", stops := ["fmt.errorf"], inPlace := ["fmt.errorf", "internal/reflectlite.TypeOf"], unfollowed := true, recurses := true, named := ["example.com/stowage/stowage/internal/store.ErrInvalidName"], ifaces := true, apart := false, laid := [("example.com/stowage/stowage/internal/store.ErrInvalidName", laid_example_com_stowage_stowage_internal_store_ErrInvalidName)] }
/-- NO THEOREM (fmt's text is open here; it may be false): for the released tool's asking of the row's closed facts alone. THE STATEMENT IS 'LawS5038AModelToldSaid' (YbulkczhuFmtCards.lean). -/
def LawS5038AModelFormAsk : Prop := lawS5038AModelRow.holds Ybaf.pinned (OpenSpec.ofChange lawS5038AModelSpec)

/-- ITS FALSE NEIGHBOUR: 'it returns false'. Refute it at one input. -/
def lawS5038AModelWrong : ChangeSpec := { name := "lawS5038AModel", vars := ["example.com/stowage/stowage/internal/store.ErrInvalidName"], fn := fun _ => fun
  | [d, g1] => { results := [.lit (.bool false)], args := [d], vars := [g1] }
  | _ => none }
def LawS5038AModelWrongFormAsk : Prop := lawS5038AModelRow.holds Ybaf.pinned (OpenSpec.ofChange lawS5038AModelWrong)

/-- 'store.LawS5038ABuilt': WHATEVER THE INPUT: true; the input reads as it did. -/
def lawS5038ABuiltSpec : ChangeSpec := { name := "lawS5038ABuilt", vars := ["example.com/stowage/stowage/internal/store.ErrInvalidName"], fn := fun _ => fun
  | [d, g1] => { results := [.lit (.bool true)], args := [d], vars := [g1] }
  | _ => none }
def lawS5038ABuiltRow : OpenClaim := { program := "ybulkczhufmt", sum := "3c6e2de7d137d929b5f5b4b4fdf9da7882cd446ac456c8d611489876891af629", func := "example.com/stowage/stowage/internal/store.LawS5038ABuilt", spec := "lawS5038ABuilt", stops := ["fmt.errorf"], inPlace := ["fmt.errorf", "internal/reflectlite.TypeOf"], unfollowed := true, recurses := true, named := ["example.com/stowage/stowage/internal/store.ErrInvalidName"], ifaces := true, apart := false, laid := [("example.com/stowage/stowage/internal/store.ErrInvalidName", laid_example_com_stowage_stowage_internal_store_ErrInvalidName)] }
/-- NO THEOREM (fmt's text is open here; it may be false): for the released tool's asking of the row's closed facts alone. THE STATEMENT IS 'LawS5038ABuiltToldSaid' (YbulkczhuFmtCards.lean). -/
def LawS5038ABuiltFormAsk : Prop := lawS5038ABuiltRow.holds Ybaf.pinned (OpenSpec.ofChange lawS5038ABuiltSpec)

/-- ITS FALSE NEIGHBOUR: 'it returns false'. Refute it at one input. -/
def lawS5038ABuiltWrong : ChangeSpec := { name := "lawS5038ABuilt", vars := ["example.com/stowage/stowage/internal/store.ErrInvalidName"], fn := fun _ => fun
  | [d, g1] => { results := [.lit (.bool false)], args := [d], vars := [g1] }
  | _ => none }
def LawS5038ABuiltWrongFormAsk : Prop := lawS5038ABuiltRow.holds Ybaf.pinned (OpenSpec.ofChange lawS5038ABuiltWrong)

end Rows
end Go.Proofs.YbulkczhuFmt
