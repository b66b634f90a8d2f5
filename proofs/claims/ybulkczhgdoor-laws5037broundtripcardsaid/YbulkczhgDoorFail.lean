/-
  (*body).fail, walked.
-/
import Derived.Test.YbulkczhgDoorRows
import Derived.Test.YbulkczhgDoorShelf
import Derived.Test.YbulkczhgDoorPlain
import Derived.WalkKit
import Derived.WalkSpells
import Derived.WalkLawsBesides
import Derived.LaidEql
namespace Go.Proofs.YbulkczhgDoor
open Go.RowKit

/-- The three error values: nil, errBody's, ErrShort's. -/
def errV (a0 a1 : Addr) : Nat → Value
  | 0 => .nilIface
  | 1 => .iface 49 (.pointer (some a0))
  | _ => .iface 49 (.pointer (some a1))

/-- What fail makes of the error's number. -/
def failC (c : Nat) (sh : Bool) : Nat := if c = 0 then (if sh then 2 else 1) else c

/-- Body's block. -/
def bodyO (kd : Int) (rv ev : Value) : Obj := .cells #[.int .u8 kd, rv, ev] 39 (0, 0)

/-- The two variables. -/
structure Vars (w : World) (a0 a1 : Addr) : Prop where
  v0 : w.cell? ⟨0, 0, none⟩ = some (.iface 49 (.pointer (some a0)))
  v1 : w.cell? ⟨1, 0, none⟩ = some (.iface 49 (.pointer (some a1)))

theorem heap_set {w : World} {g : Nat} {cs : Array Value} {t : TypeId} {m : Nat × Nat} (h : w.heap[g]? = some (.cells cs t m)) (i : Nat) (v : Value) :
    (w.setCell ⟨g, i, none⟩ v).heap[g]? = some (.cells (cs.setIfInBounds i v) t m) := by
  simp only [World.setCell, Array.getElem?_modify]
  simp [h]

theorem grownBy_trans {a b c : World} {r : Option Nat} (h : a.grownBy b r) (k : b.grownBy c r) : a.grownBy c r :=
  ⟨k.os.trans h.os, k.tape.trans h.tape, k.output.trans h.output, Nat.le_trans h.size k.size, fun i hi hr => (k.block i (Nat.lt_of_lt_of_le hi h.size) hr).trans (h.block i hi hr)⟩

theorem grownBy_set (w : World) (g i : Nat) (v : Value) : w.grownBy (w.setCell ⟨g, i, none⟩ v) (some g) :=
  ⟨rfl, rfl, rfl, by simp [World.setCell], fun k _ hr => Below.heap_setCell w _ v k (by intro e; exact hr (by rw [e]))⟩

theorem body_cells {w : World} {g : Nat} {kd : Int} {rv ev : Value} (h : w.heap[g]? = some (bodyO kd rv ev)) :
    w.cell? ⟨g, 0, none⟩ = some (.int .u8 kd) ∧ w.cell? ⟨g, 1, none⟩ = some rv ∧ w.cell? ⟨g, 2, none⟩ = some ev ∧
    w.frozen? ⟨g, 1, none⟩ = false ∧ w.frozen? ⟨g, 2, none⟩ = false := by
  unfold bodyO at h
  refine ⟨?_, ?_, ?_, ?_, ?_⟩
  · rw [cell_of_row w g 0 _ _ _ h]; rfl
  · rw [cell_of_row w g 1 _ _ _ h]; rfl
  · rw [cell_of_row w g 2 _ _ _ h]; rfl
  · simp [World.frozen?, h]
  · simp [World.frozen?, h]

set_option maxHeartbeats 400000 in
theorem fail_any (g : Nat) (kd : Int) (rv : Value) (c : Nat) (sh : Bool) (a0 a1 : Addr) (w : World) (hv : Vars w a0 a1) (_h1g : 1 < g)
    (hg : w.heap[g]? = some (bodyO kd rv (errV a0 a1 c))) (hc : c ≤ 2) :
    Calls Ybad.prog 19 #[.pointer (some ⟨g, 0, none⟩), .bool sh] w fun e w' => e = .returned (.tuple #[]) ∧
      w'.heap[g]? = some (bodyO kd (.slice none 0 0) (errV a0 a1 (failC c sh))) ∧ w.grownBy w' (some g) := by
  obtain ⟨c0, c1, c2, f1, f2⟩ := body_cells hg
  obtain ⟨v0, v1⟩ := hv
  have HG : Hid (w.heap[g]? = some (bodyO kd rv (errV a0 a1 c))) := hg
  clear hg
  rcases (show c = 0 ∨ c = 1 ∨ c = 2 by omega) with rfl | rfl | rfl
  · cases sh
    · simp only [errV] at c2
      go_enter Ybad.func19, Ybad.ntmps19
      go_wp2
      go_end0
      refine ⟨rfl, ?_, grownBy_trans (grownBy_set _ _ _ _) (grownBy_set _ _ _ _)⟩
      exact heap_set (heap_set HG.out 2 _) 1 _
    · simp only [errV] at c2
      go_enter Ybad.func19, Ybad.ntmps19
      go_wp2
      go_end0
      refine ⟨rfl, ?_, grownBy_trans (grownBy_trans (grownBy_set _ _ _ _) (grownBy_set _ _ _ _)) (grownBy_set _ _ _ _)⟩
      exact heap_set (heap_set (heap_set HG.out 2 _) 2 _) 1 _
  · simp only [errV] at c2
    go_enter Ybad.func19, Ybad.ntmps19
    go_wp2
    go_end0
    exact ⟨rfl, heap_set HG.out 1 _, grownBy_set _ _ _ _⟩
  · simp only [errV] at c2
    go_enter Ybad.func19, Ybad.ntmps19
    go_wp2
    go_end0
    exact ⟨rfl, heap_set HG.out 1 _, grownBy_set _ _ _ _⟩

end Go.Proofs.YbulkczhgDoor
