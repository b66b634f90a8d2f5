/-
  What zzs5041abuild makes, messages and all.
-/
import Derived.Test.YbulkczjkFmtMsg
namespace Go.Proofs.YbulkczjkFmt
open Go.RowKit Go.Maps

theorem own_kept39 {w w' : World} {B n : Nat} {v : Value} {xs : List Value} (h : w.ownsRow B 39 9 v n xs) (hk : ∀ (b : Nat) (cur : Array Value), w.heap[b]? = some (Obj.cells cur 39 (0, 0)) → w'.heap[b]? = w.heap[b]?) : w'.ownsRow B 39 9 v n xs := by
  refine ⟨h.1, h.2.imp id ?_⟩
  rintro ⟨g, cap, cur, a1, a2, a3, a4⟩
  exact ⟨g, cap, cur, a1, a2, (hk g cur a3).trans a3, a4⟩

structure BuiltM (B n mm cm t L : Nat) (ms : Nat → Msg) (w : World) (lc g : Nat) (m : Nat → Nat) (ao : Option Addr) (mc nd dl : Nat) (v : Value) : Prop where
  row : RowT w 47 lc (((lcCells n m).set 6 v).set 11 (.int .i64 (expN ms L)))
  msgs : w.ownsRow B 39 9 v L (msgL n g ms (bs0 ms) (bc0 ms) (ow0 ms) L)
  grp : RowT w 30 g [.slice ao (memN mm n).length mc, .int .i64 (survN mm cm n)]
  mem : w.ownsRow 0 9 1 (.slice ao (memN mm n).length mc) (memN mm n).length (memV mm n)
  groups : w.ownsMap Ybaf.prog 9 ptrElem (m 0) 1 (dG g)
  procs : w.ownsMap Ybaf.prog 9 (plainElem Ybaf.prog 3) (m 4) n (procD n)
  nodes : w.ownsMap Ybaf.prog 9 ptrElem (m 11) 1 ((DataW.map []).put (.string (idB t).data.toList) (.lit (.int .i64 nd)))
  crashed : RowT w 4 (m 6) (crL cm n n)
  stopped : RowT w 4 (m 8) (List.replicate n (.bool false))
  last : RowT w 4 (m 10) (List.replicate n (.bool false))
  node : ∃ x y, RowT w 68 nd (nodeL t dl x y)
  deliv : w.ownsMap Ybaf.prog 3 (plainElem Ybaf.prog 4) dl L (delD ms L)
  le : B ≤ lc ∧ B ≤ g ∧ B ≤ m 6
  ne : m 6 ≠ m 8 ∧ m 6 ≠ m 10

/-- .. ahead of the node's laying. -/
structure FiveM (B n mm cm L : Nat) (ms : Nat → Msg) (w : World) (lc g : Nat) (m : Nat → Nat) (ao : Option Addr) (mc dl : Nat) (v : Value) : Prop where
  row : RowT w 47 lc (((lcCells n m).set 6 v).set 11 (.int .i64 (expN ms L)))
  msgs : w.ownsRow B 39 9 v L (msgL n g ms (bs0 ms) (bc0 ms) (ow0 ms) L)
  grp : RowT w 30 g [.slice ao (memN mm n).length mc, .int .i64 (survN mm cm n)]
  mem : w.ownsRow 0 9 1 (.slice ao (memN mm n).length mc) (memN mm n).length (memV mm n)
  groups : w.ownsMap Ybaf.prog 9 ptrElem (m 0) 1 (dG g)
  procs : w.ownsMap Ybaf.prog 9 (plainElem Ybaf.prog 3) (m 4) n (procD n)
  nodes : w.ownsMap Ybaf.prog 9 ptrElem (m 11) 0 (.map [])
  crashed : RowT w 4 (m 6) (crL cm n n)
  stopped : RowT w 4 (m 8) (List.replicate n (.bool false))
  last : RowT w 4 (m 10) (List.replicate n (.bool false))
  deliv : w.ownsMap Ybaf.prog 3 (plainElem Ybaf.prog 4) dl L (delD ms L)
  ne0 : m 0 ≠ m 11
  ne4 : m 4 ≠ m 11
  neD : dl ≠ m 11
  ne : m 6 ≠ m 8 ∧ m 6 ≠ m 10

theorem FiveM.built {B n mm cm t L : Nat} {ms : Nat → Msg} {w w' : World} {lc g : Nat} {m : Nat → Nat} {ao : Option Addr} {mc dl x y : Nat} {v : Value} (h : FiveM B n mm cm L ms w lc g m ao mc dl v) (hle : B ≤ lc ∧ B ≤ g ∧ B ≤ m 6)
    (ho : w'.ownsMap Ybaf.prog 9 ptrElem (m 11) 1 ((DataW.map []).put (.string (idB t).data.toList) (.lit (.int .i64 ((w.heap.size + 2 : Nat) : Int)))))
    (hg : ((((w.alloc (.map #[] 0)).alloc (.map #[] 0)).alloc (.cells (nodeL t dl x y).toArray 68)).drew).grownBy w' (some (m 11))) :
    BuiltM B n mm cm t L ms w' lc g m ao mc (w.heap.size + 2) dl v := by
  have hlt := h.nodes.lt
  have ga : w.grownBy ((((w.alloc (.map #[] 0)).alloc (.map #[] 0)).alloc (.cells (nodeL t dl x y).toArray 68)).drew) none := by
    have := grownBy_trans (grownBy_trans (World.grownBy_alloc w (.map #[] 0) none) (World.grownBy_alloc _ (.map #[] 0) none)) (World.grownBy_alloc _ (.cells (nodeL t dl x y).toArray 68) none)
    exact ⟨this.os, this.tape, this.output, this.size, this.block⟩
  have gg : w.grownBy w' (some (m 11)) := grownBy_trans (grownBy_none ga) hg
  have nr : ∀ {t' : TypeId} {b : Nat} {xs : List Value}, RowT w t' b xs → some b ≠ some (m 11) := fun hr e => hr.neMap h.nodes (by simpa using e)
  have nb : ∀ {b : Nat} {cur : Array Value} {t' : TypeId}, w.heap[b]? = some (Obj.cells cur t' (0, 0)) → some b ≠ some (m 11) := by
    intro b cur t' hb e
    obtain ⟨es, cl, hm, _⟩ := h.nodes
    rw [Option.some.inj e, hm] at hb
    cases hb
  refine ⟨h.row.kept gg (nr h.row), own_kept39 h.msgs fun b cur hb => gg.block b (Array.getElem?_eq_some_iff.1 hb).1 (nb hb), h.grp.kept gg (nr h.grp), own_kept h.mem fun b cur hb => gg.block b (Array.getElem?_eq_some_iff.1 hb).1 (nb hb), h.groups.kept gg (by simpa using h.ne0), h.procs.kept gg (by simpa using h.ne4), ho, h.crashed.kept gg (nr h.crashed), h.stopped.kept gg (nr h.stopped), h.last.kept gg (nr h.last), ⟨x, y, ?_⟩, h.deliv.kept gg (by simpa using h.neD), hle, h.ne⟩
  have h2 : RowT ((((w.alloc (.map #[] 0)).alloc (.map #[] 0)).alloc (.cells (nodeL t dl x y).toArray 68)).drew) 68 (w.heap.size + 2) (nodeL t dl x y) := by
    have := heap_new ((w.alloc (.map #[] 0)).alloc (.map #[] 0)) (.cells (nodeL t dl x y).toArray 68)
    rw [show ((w.alloc (.map #[] 0)).alloc (.map #[] 0)).heap.size = w.heap.size + 2 by simp] at this
    exact this
  refine h2.kept hg (fun e => ?_)
  have := Option.some.inj e
  omega

end Go.Proofs.YbulkczjkFmt
