/-
  What both rows want: the sentinel out of the condition, a world that meets it.
-/
import Derived.Test.YbulkczhuFmtName
import Derived.ProofKit
import Derived.OpenShut
import Derived.ShutString
import Derived.LaidMore
import Derived.ChangeOld
import Derived.Below
import Derived.Stop.LaidErr
import Derived.Stop.Joined
import Derived.Stop.JoinedTold
import Derived.SevenToldRow
import Derived.Deep.DeepWitnessRef
import Derived.MakeChecks
namespace Go.Proofs.YbulkczhuFmt
open Go.ChangeShapes Go.WideShapes Go.ChangeAt Go.RowKit Go.Extern.Stop Go.Stop Go.Extern

theorem own : ownKnob Ybaf.prog.godebug = none := by kernel_rfl
theorem laidOut : laidOutB Ybaf.pinned.checked.prog = true := by kernel_rfl
theorem stops : Ybaf.pinned.checked.prog.stops = ["fmt.errorf"] := by kernel_rfl
theorem stopKnobs : Ybaf.pinned.checked.prog.stopKnobs = [] := by kernel_rfl
theorem quiet (os : Os) : Stop.quiet Ybaf.pinned.checked.prog os := by
  intro k hk
  rw [stopKnobs] at hk
  cases hk

/-- The variable's name, off the given rows. -/
def nVar : String := Rows.lawS5038AModelSpec.vars.getD 0 ""
theorem gVar : Ybaf.prog.globalNamed nVar = some 0 := by kernel_rfl
theorem tVar : (Ybaf.prog.globals[0]?).map (·.type) = some 28 := by kernel_rfl
theorem cells52 : Ybaf.prog.cellsOf 52 = 1 := by kernel_rfl
theorem cells9 : Ybaf.prog.cellsOf 9 = 1 := by kernel_rfl
theorem row50 (u : TypeId) (h : Ybaf.prog.typeName? 3 u = some nErr) : u = 50 :=
  typeName_ptr_named (nm := "errors.errorString") (by kernel_rfl) (by kernel_rfl) (by decide) u (h.trans (congrArg some (by decide)))

def laid1 : List (String × DataW Unit) := [(nVar, Rows.laid_example_com_stowage_stowage_internal_store_ErrInvalidName)]

theorem of_laid {W : World} (h : laidMetH Ybaf.prog laid1 W) : ∃ (a : Addr) (s0 : ByteArray), W.var? Ybaf.prog nVar = some #[.iface 50 (.pointer (some a))] ∧ Sent W a s0 := by
  rw [MakeChecks.laidMetH_plain _ _ _ (by kernel_rfl)] at h
  obtain ⟨a, s0, hv, hc, _, _⟩ := laid_sentinel h gVar tVar Ybaf.underlying28 row50 Ybaf.underlying50 Ybaf.underlying52 rfl rfl Ybaf.underlying9 cells52 cells9
  exact ⟨a, s0, hv, ⟨by simpa using World.var?_cell gVar hv 0, hc⟩⟩

theorem door_met (os : Os) (args : Array Value) : laidMetH Ybaf.prog laid1 ((World.doorLaid Ybaf.prog 28 os).forCall (fun _ _ => 0) ⟨#[], args, []⟩).memory :=
  laidMetH_of_parts3 (fuel := 8) (laidMet_of_run' 8 (by kernel_rfl) (by kernel_rfl)) (by kernel_rfl) (by kernel_rfl)

end Go.Proofs.YbulkczhuFmt
