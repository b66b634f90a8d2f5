/-
  NARROWER THAN 'FOR EVERY INPUT', by the rows' own cells (each row's printed sentence says how): LawS5037BModel: ifaces, laid · LawS5037BRoundTrip: ifaces, laid.
  DERIVED. THE GIVEN ROWS OF THIS SEAT. 3 by the template 'for every input the law returns true; each argument reads behind the call as it read before'; 0 by the template 'total and deterministic' (their statements: YbulkczhgDoorTotals.lean).
  GIVEN WITH THE SEED: the statements are not yours to turn. If you find one false, say at which input.
  Laid BY PROGRAM, IN A SANDBOX (cutbox-rows.mjs): the forced cells as the released guide's own fill.sh prints them over the translation d6f560c4ead89b19… (all of the seat's roots in one cut). By AI agents, Wed Nov 11 2026. No macro, syntax, notation, axiom, sorry.
-/
import Derived.Test.YbulkczhgDoorChecked
import GoSem.Claim
import GoSem.ClaimJoined
import GoSem.ClaimMapViews
import Derived.JoinedTies
import Derived.KernelRfl
namespace Go.Proofs.YbulkczhgDoor
/- THE CELL 'sum', in the pinned program and in every row, IS THE sha256 OF THE DUMP (.gsa) THAT YbulkczhgDoorProg.lean LOADS. Nothing in Lean hashes anything: it is a label: what it is worth is what the hold of that sum in a sandbox is worth. -/
noncomputable def Ybad.pinned : Pinned := { name := "ybulkczhgdoor", sum := "d6f560c4ead89b19289a8d0e8bbcff2136dfc19f1ea5e0ef788325950793e834", checked := Ybad.checked }
namespace Rows
def none {H : Type} : Left H := { results := [], args := [] }

/- WHAT THE LISTED PACKAGE-LEVEL VARIABLES READ AS WHEN THE CALL BEGINS. Each datum BY PROGRAM (the guide's laid-datum.mjs) off the statement by which the dump's own 'gosem.cut.vars' lays the variable. In a bare row this is a premise. The card (YbulkczhgDoorCards.lean) ties it to the program's text. -/
def laid_example_com_horolog_horolog_internal_journal_ErrShort {H : Type} : DataW H := .iface "*errors.errorString" (.ptr (.agg [.lit (.string [105, 116, 32, 101, 110, 100, 115, 32, 98, 101, 102, 111, 114, 101, 32, 105, 116, 115, 32, 108, 97, 115, 116, 32, 110, 117, 109, 98, 101, 114])]))
def laid_example_com_horolog_horolog_internal_kvstore_errBody {H : Type} : DataW H := .iface "*errors.errorString" (.ptr (.agg [.lit (.string [105, 116, 115, 32, 110, 117, 109, 98, 101, 114, 115, 32, 97, 114, 101, 32, 109, 97, 108, 102, 111, 114, 109, 101, 100])]))

/-- 'client.LawS5037AChoice': WHATEVER THE INPUT: true; the input reads as it did. -/
def lawS5037AChoiceSpec : ChangeSpec := { name := "lawS5037AChoice", fn := fun _ => fun
  | [d1, d2, d3, d4, d5] => { results := [.lit (.bool true)], args := [d1, d2, d3, d4, d5] }
  | _ => none }
def lawS5037AChoiceRow : OpenClaim := { program := "ybulkczhgdoor", sum := "d6f560c4ead89b19289a8d0e8bbcff2136dfc19f1ea5e0ef788325950793e834", func := "example.com/horolog/horolog/client.LawS5037AChoice", spec := "lawS5037AChoice", inPlace := ["(*internal/sync.Mutex).Lock", "internal/race.Disable", "sync/atomic.CompareAndSwapInt32", "internal/race.Enable", "internal/race.Acquire", "(*internal/sync.Mutex).lockSlow", "internal/sync.runtime_canSpin", "internal/sync.runtime_doSpin", "internal/sync.throw", "internal/sync.runtime_nanotime", "internal/sync.runtime_SemacquireMutex", "sync/atomic.AddInt32", "(*internal/sync.Mutex).Unlock", "internal/race.ReleaseMerge", "(*internal/sync.Mutex).unlockSlow", "internal/sync.fatal", "internal/sync.runtime_Semrelease"], unfollowed := true, recurses := true, named := ["context.cancelCtxKey"], apart := false }
def LawS5037AChoiceSaid : Prop := lawS5037AChoiceRow.holds Ybad.pinned (OpenSpec.ofChange lawS5037AChoiceSpec)

/-- ITS FALSE NEIGHBOUR: 'it returns false'. Refute it at one input. -/
def lawS5037AChoiceWrong : ChangeSpec := { name := "lawS5037AChoice", fn := fun _ => fun
  | [d1, d2, d3, d4, d5] => { results := [.lit (.bool false)], args := [d1, d2, d3, d4, d5] }
  | _ => none }
def LawS5037AChoiceWrongFalsely : Prop := lawS5037AChoiceRow.holds Ybad.pinned (OpenSpec.ofChange lawS5037AChoiceWrong)

/-- 'kvstore.LawS5037BModel': WHATEVER THE INPUT: true; the input reads as it did. -/
def lawS5037BModelSpec : ChangeSpec := { name := "lawS5037BModel", vars := ["example.com/horolog/horolog/internal/kvstore.errBody", "example.com/horolog/horolog/internal/journal.ErrShort"], fn := fun _ => fun
  | [d1, d2, d3, g1, g2] => { results := [.lit (.bool true)], args := [d1, d2, d3], vars := [g1, g2] }
  | _ => none }
def lawS5037BModelRow : OpenClaim := { program := "ybulkczhgdoor", sum := "d6f560c4ead89b19289a8d0e8bbcff2136dfc19f1ea5e0ef788325950793e834", func := "example.com/horolog/horolog/internal/kvstore.LawS5037BModel", spec := "lawS5037BModel", named := ["example.com/horolog/horolog/internal/kvstore.errBody", "example.com/horolog/horolog/internal/journal.ErrShort"], ifaces := true, apart := false, laid := [("example.com/horolog/horolog/internal/journal.ErrShort", laid_example_com_horolog_horolog_internal_journal_ErrShort), ("example.com/horolog/horolog/internal/kvstore.errBody", laid_example_com_horolog_horolog_internal_kvstore_errBody)] }
def LawS5037BModelSaid : Prop := lawS5037BModelRow.holds Ybad.pinned (OpenSpec.ofChange lawS5037BModelSpec)

/-- ITS FALSE NEIGHBOUR: 'it returns false'. Refute it at one input. -/
def lawS5037BModelWrong : ChangeSpec := { name := "lawS5037BModel", vars := ["example.com/horolog/horolog/internal/kvstore.errBody", "example.com/horolog/horolog/internal/journal.ErrShort"], fn := fun _ => fun
  | [d1, d2, d3, g1, g2] => { results := [.lit (.bool false)], args := [d1, d2, d3], vars := [g1, g2] }
  | _ => none }
def LawS5037BModelWrongFalsely : Prop := lawS5037BModelRow.holds Ybad.pinned (OpenSpec.ofChange lawS5037BModelWrong)

/-- 'kvstore.LawS5037BRoundTrip': WHATEVER THE INPUT: true; the input reads as it did. -/
def lawS5037BRoundTripSpec : ChangeSpec := { name := "lawS5037BRoundTrip", vars := ["example.com/horolog/horolog/internal/kvstore.errBody", "example.com/horolog/horolog/internal/journal.ErrShort"], fn := fun _ => fun
  | [d1, d2, d3, g1, g2] => { results := [.lit (.bool true)], args := [d1, d2, d3], vars := [g1, g2] }
  | _ => none }
def lawS5037BRoundTripRow : OpenClaim := { program := "ybulkczhgdoor", sum := "d6f560c4ead89b19289a8d0e8bbcff2136dfc19f1ea5e0ef788325950793e834", func := "example.com/horolog/horolog/internal/kvstore.LawS5037BRoundTrip", spec := "lawS5037BRoundTrip", named := ["example.com/horolog/horolog/internal/kvstore.errBody", "example.com/horolog/horolog/internal/journal.ErrShort"], ifaces := true, apart := false, laid := [("example.com/horolog/horolog/internal/journal.ErrShort", laid_example_com_horolog_horolog_internal_journal_ErrShort), ("example.com/horolog/horolog/internal/kvstore.errBody", laid_example_com_horolog_horolog_internal_kvstore_errBody)] }
def LawS5037BRoundTripSaid : Prop := lawS5037BRoundTripRow.holds Ybad.pinned (OpenSpec.ofChange lawS5037BRoundTripSpec)

/-- ITS FALSE NEIGHBOUR: 'it returns false'. Refute it at one input. -/
def lawS5037BRoundTripWrong : ChangeSpec := { name := "lawS5037BRoundTrip", vars := ["example.com/horolog/horolog/internal/kvstore.errBody", "example.com/horolog/horolog/internal/journal.ErrShort"], fn := fun _ => fun
  | [d1, d2, d3, g1, g2] => { results := [.lit (.bool false)], args := [d1, d2, d3], vars := [g1, g2] }
  | _ => none }
def LawS5037BRoundTripWrongFalsely : Prop := lawS5037BRoundTripRow.holds Ybad.pinned (OpenSpec.ofChange lawS5037BRoundTripWrong)

end Rows
end Go.Proofs.YbulkczhgDoor
