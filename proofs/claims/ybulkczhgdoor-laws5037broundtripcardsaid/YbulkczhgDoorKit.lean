/-
  What both rows want: the two sentinels out of the condition, a world that meets it, slices of integers opened.
-/
import Derived.Test.YbulkczhgDoorTrip
import Derived.ProofKit
import Derived.OpenShut
import Derived.LaidMore
import Derived.ChangeOld
import Derived.Below
import Derived.Stop.LaidErr
import Derived.Stop.Joined
import Derived.MakeChecks
namespace Go.Proofs.YbulkczhgDoor
open Go.ChangeShapes Go.WideShapes Go.ChangeAt Go.RowKit

theorem Ybad.own : ownKnob Ybad.prog.godebug = none := by kernel_rfl
theorem Ybad.laidOut : laidOutB Ybad.prog = true := by kernel_rfl
/-- The two variables' names, off the given rows; the sentinels' type's name. -/
def nBody : String := Rows.lawS5037BModelSpec.vars.getD 0 ""
def nShort : String := Rows.lawS5037BModelSpec.vars.getD 1 ""
def nErr : String := match (Rows.laid_example_com_horolog_horolog_internal_journal_ErrShort : DataW Unit) with
  | .iface n _ => n
  | _ => ""
theorem gBody : Ybad.prog.globalNamed nBody = some 0 := by kernel_rfl
theorem gShort : Ybad.prog.globalNamed nShort = some 1 := by kernel_rfl
theorem tBody : (Ybad.prog.globals[0]?).map (·.type) = some 27 := by kernel_rfl
theorem tShort : (Ybad.prog.globals[1]?).map (·.type) = some 27 := by kernel_rfl
theorem cells51 : Ybad.prog.cellsOf 51 = 1 := by kernel_rfl
theorem cells9 : Ybad.prog.cellsOf 9 = 1 := by kernel_rfl
theorem row49 (u : TypeId) (h : Ybad.prog.typeName? 3 u = some nErr) : u = 49 :=
  typeName_ptr_named (nm := "errors.errorString") (by kernel_rfl) (by kernel_rfl) (by decide) u (h.trans (congrArg some (by decide)))

def laid2 : List (String × DataW Unit) := [(nShort, Rows.laid_example_com_horolog_horolog_internal_journal_ErrShort), (nBody, Rows.laid_example_com_horolog_horolog_internal_kvstore_errBody)]

/-- What the condition gives: the variables' values. -/
theorem of_laid {W : World} (h : laidMetH Ybad.prog laid2 W) : ∃ a0 a1 : Addr,
    W.var? Ybad.prog nBody = some #[.iface 49 (.pointer (some a0))] ∧
    W.var? Ybad.prog nShort = some #[.iface 49 (.pointer (some a1))] := by
  rw [MakeChecks.laidMetH_plain _ _ _ (by kernel_rfl)] at h
  obtain ⟨a1, _, hv1, _, _, _⟩ := laid_sentinel h gShort tShort Ybad.underlying27 row49 Ybad.underlying49 Ybad.underlying51 rfl rfl Ybad.underlying9 cells51 cells9
  obtain ⟨a0, _, hv0, _, _, _⟩ := laid_sentinel h.tail gBody tBody Ybad.underlying27 row49 Ybad.underlying49 Ybad.underlying51 rfl rfl Ybad.underlying9 cells51 cells9
  exact ⟨a0, a1, hv0, hv1⟩

theorem vars_of {W : World} {a0 a1 : Addr} (h0 : W.var? Ybad.prog nBody = some #[.iface 49 (.pointer (some a0))])
    (h1 : W.var? Ybad.prog nShort = some #[.iface 49 (.pointer (some a1))]) : Vars W a0 a1 :=
  ⟨by simpa using World.var?_cell gBody h0 0, by simpa using World.var?_cell gShort h1 0⟩

/-- The door's own heap meets the condition. -/
theorem door_met (os : Os) (args : Array Value) : laidMetH Ybad.prog laid2 ((World.doorLaid Ybad.prog 47 os).forCall (fun _ _ => 0) ⟨#[], args, []⟩).memory :=
  laidMetH_of_parts3 (fuel := 8) (laidMet_of_run' 8 (by kernel_rfl) (by kernel_rfl)) (by kernel_rfl) (by kernel_rfl)

/-- A slice of integers that came in. -/
theorem view_ints {H : Type} {enc : TypeId × Value → H} {W : World} {k : IntKind} {t e : TypeId} {a : Option Addr} {len cap : Nat} {d : DataW H} {p : List MemPlace} {b : Bool} {n : Nat}
    (ht : Ybad.prog.underlying t = some (.slice e)) (he : Ybad.prog.underlying e = some (.int k)) (hc : Ybad.prog.cellsOf e = 1)
    (h : DataW.Trod enc Ybad.prog W n (fun _ => true) b t (.slice a len cap) d p) :
    ∃ zs, ViewI k W a len zs ∧ (a = none → len = 0 ∧ cap = 0) ∧ (∀ z ∈ zs, (Lit.int k z).wf = true) := by
  obtain ⟨fuel, hf⟩ := h
  rcases open_ints ht he hc hf with ⟨hcs, _⟩ | ⟨x, l, c, zs, hcs, _, hl, hm, hz, _, hcell, hwz⟩
  · simp [Value.cells] at hcs
    obtain ⟨rfl, rfl, rfl⟩ := hcs
    exact ⟨[], ⟨rfl, fun h => by omega⟩, fun _ => ⟨rfl, rfl⟩, fun z h => by cases h⟩
  · simp [Value.cells] at hcs
    obtain ⟨rfl, rfl, rfl⟩ := hcs
    have hz' : zs.length = cap := by simpa using hz
    refine ⟨zs.take len, ⟨by rw [List.length_take]; omega, fun h0 => ?_⟩, (fun h => by cases h), fun z hz => hwz z (List.mem_of_mem_take hz)⟩
    obtain ⟨bb, off, spot⟩ := x
    have hc0 := hcell 0 (by omega)
    have hspot : spot = none := by simpa [Addr.add] using World.cell?_spot hc0
    subst hspot
    refine ⟨bb, off, rfl, ?_, fun i hi => ?_⟩
    · have := World.block_lt_of_cell? W _ hc0
      simpa [Addr.add] using this
    · have := hcell i (by omega)
      rw [show (⟨bb, off, none⟩ : Addr).add i = ⟨bb, off + i, none⟩ by simp [Addr.add]] at this
      have e : (zs.take len).getD i 0 = zs.getD i 0 := by
        simp only [List.getD_eq_getElem?_getD]
        rw [List.getElem?_take, if_pos hi]
      rw [this, e]

/-- .. of bytes. -/
theorem view_bytes {W : World} {a : Option Addr} {len : Nat} {zs : List Int} (h : ViewI .u8 W a len zs) (hw : ∀ z ∈ zs, (Lit.int .u8 z).wf = true) : ViewB W a len (zs.map fun z => z.toNat.toUInt8) := by
  obtain ⟨hl, hc⟩ := h
  refine ⟨by simpa using hl, fun h0 => ?_⟩
  obtain ⟨b, o, e, hb, hcc⟩ := hc h0
  refine ⟨b, o, e, hb, fun i hi => ?_⟩
  have hi' : i < zs.length := by simpa using hi
  rw [hcc i (by omega)]
  have hm := hw zs[i] (List.getElem_mem _)
  have hr : 0 ≤ zs[i] ∧ zs[i] ≤ 255 := bounds_u8 hm
  have hd : zs.getD i 0 = zs[i] := by simp [hi']
  have h1 : (zs[i].toNat.toUInt8).toNat = zs[i].toNat := by simp; omega
  have h2 : ((zs[i].toNat : Nat) : Int) = zs[i] := by omega
  rw [hd, List.getElem_map, h1, h2]

end Go.Proofs.YbulkczhgDoor
