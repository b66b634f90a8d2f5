/-
  zzs5041aids: walked; what zzs5041abuild makes, in plain words.
-/
import Derived.Test.YbulkczjkFmtOrd3
import Derived.Deep.QuietTactic
import Derived.BigQuiet
import Derived.BigRegion
import Derived.Deep.Cut
import Derived.Maps.OwnOps
import Derived.Laws.BitsAllLaws
namespace Go.Proofs.YbulkczjkFmt
open Go.RowKit Go.Maps

def idsRow : Obj := .cells #[.string ⟨#[97]⟩, .string ⟨#[98]⟩, .string ⟨#[99]⟩, .string ⟨#[100]⟩] 9

set_option maxHeartbeats 400000 in
theorem ids_any (w : World) : Calls Ybaf.prog 6 #[] w fun e w' => e = .returned (.slice (some ⟨w.heap.size, 0, none⟩) 4 4) ∧ w' = w.alloc idsRow := by
  go_enter Ybaf.func6, Ybaf.ntmps6
  go_wp2
  go_ret
  exact ⟨rfl, rfl⟩

def idB (i : Nat) : ByteArray := ⟨#[97 + i.toUInt8]⟩
def bitN (x i : Nat) : Bool := x / 2 ^ i % 2 == 1
def memN (mm k : Nat) : List Nat := (List.range k).filter fun i => bitN mm i
def memV (mm k : Nat) : List Value := (memN mm k).map fun i => .string (idB i)
def survN (mm cm k : Nat) : Nat := ((List.range k).filter fun i => bitN mm i && !bitN cm i).length

theorem Ybaf.info9 : (Ybaf.prog.info? 9).map (fun i => (i.zero, i.size, i.bytes)) = some (some (.string ByteArray.empty), 1, 16) := by kernel_rfl

theorem and_one (x k : Nat) (hx : x < 256) : bits .and .u8 ((x : Int) / 2 ^ k) 1 = if bitN x k then 1 else 0 := by
  have h1 : ((x : Int) / 2 ^ k) = ((x / 2 ^ k : Nat) : Int) := by simp
  have h2 : x / 2 ^ k < 256 := Nat.lt_of_le_of_lt (Nat.div_le_self _ _) hx
  rw [h1]
  unfold bitN
  generalize x / 2 ^ k = y at *
  have := u8_and_nat y 1 h2 (by omega)
  rw [Nat.and_one_is_mod] at this
  rw [show ((1 : Nat) : Int) = 1 from rfl] at this
  rw [this]
  rcases Nat.mod_two_eq_zero_or_one y with e | e <;> simp [e]

theorem bit_on {x k : Nat} (hx : x < 256) (h : bitN x k = true) : bits .and .u8 ((x : Int) / 2 ^ k) 1 = 1 := by rw [and_one x k hx, h]; rfl
theorem bit_off {x k : Nat} (hx : x < 256) (h : bitN x k = false) : bits .and .u8 ((x : Int) / 2 ^ k) 1 = 0 := by rw [and_one x k hx, h]; rfl

theorem memN_succ (mm k : Nat) : memN mm (k + 1) = memN mm k ++ if bitN mm k then [k] else [] := by
  unfold memN
  rw [List.range_succ, List.filter_append]
  simp only [List.filter_cons, List.filter_nil]
theorem memV_on {mm k : Nat} (h : bitN mm k = true) : memV mm (k + 1) = memV mm k ++ [.string (idB k)] := by
  unfold memV; rw [memN_succ, if_pos h]; simp
theorem memV_off {mm k : Nat} (h : bitN mm k = false) : memV mm (k + 1) = memV mm k := by
  unfold memV; rw [memN_succ, h]; simp
theorem memL_on {mm k : Nat} (h : bitN mm k = true) : (memN mm (k + 1)).length = (memN mm k).length + 1 := by rw [memN_succ, if_pos h]; simp
theorem memL_off {mm k : Nat} (h : bitN mm k = false) : (memN mm (k + 1)).length = (memN mm k).length := by rw [memN_succ, h]; simp
theorem memL_le (mm k : Nat) : (memN mm k).length ≤ k := by
  have := List.length_filter_le (fun i => bitN mm i) (List.range k)
  simpa [memN] using this
theorem survN_succ (mm cm k : Nat) : survN mm cm (k + 1) = survN mm cm k + if bitN mm k && !bitN cm k then 1 else 0 := by
  unfold survN
  rw [List.range_succ, List.filter_append, List.length_append]
  simp only [List.filter_cons, List.filter_nil]
  split <;> rfl
theorem survN_le (mm cm k : Nat) : survN mm cm k ≤ k := by
  have := List.length_filter_le (fun i => bitN mm i && !bitN cm i) (List.range k)
  simpa [survN] using this

theorem own_base {w : World} {B e size n : Nat} {v : Value} {xs : List Value} (h : w.ownsRow B e size v n xs) : ∀ g, v.ownBlock = some g → B ≤ g := by
  intro g hg
  rcases h.2 with ⟨rfl, _⟩ | ⟨g', cap, cur, rfl, hb, _⟩
  · cases hg
  · cases hg; exact hb

theorem ids_cell (w : World) (k : Nat) (hk : k < 4) : (w.alloc idsRow).cell? ⟨w.heap.size, k, none⟩ = some (.string (idB k)) := by
  have : k = 0 ∨ k = 1 ∨ k = 2 ∨ k = 3 := by omega
  rcases this with rfl | rfl | rfl | rfl <;> (simp [idsRow]; rfl)

theorem RowT.cell {w : World} {t : TypeId} {g : Nat} {xs : List Value} (h : RowT w t g xs) (j : Nat) : w.cell? ⟨g, j, none⟩ = xs[j]? := by
  rw [cell_of_row w g j _ _ _ h]; simp
theorem RowT.frozen {w : World} {t : TypeId} {g : Nat} {xs : List Value} (h : RowT w t g xs) (j : Nat) : w.frozen? ⟨g, j, none⟩ = false := by
  unfold RowT at h
  simp [World.frozen?, h]
theorem RowT.set {w : World} {t : TypeId} {g : Nat} {xs : List Value} (h : RowT w t g xs) (i : Nat) (v : Value) : RowT (w.setCell ⟨g, i, none⟩ v) t g (xs.set i v) := by
  unfold RowT at h ⊢
  simp only [World.setCell, Array.getElem?_modify]
  simp [h]
theorem RowT.lt {w : World} {t : TypeId} {g : Nat} {xs : List Value} (h : RowT w t g xs) : g < w.heap.size := (Array.getElem?_eq_some_iff.1 h).1
theorem RowT.ne {w : World} {t t' : TypeId} {g g' : Nat} {xs xs' : List Value} (h : RowT w t g xs) (h' : RowT w t' g' xs') (ht : t ≠ t') : g ≠ g' := by
  rintro rfl
  unfold RowT at h h'
  rw [h] at h'
  simp only [Option.some.injEq, Obj.cells.injEq] at h'
  exact ht h'.2.1
theorem RowT.neMap {H : Type} {w : World} {t k : TypeId} {g b n : Nat} {xs : List Value} {R : Value → Option (DataW H × List MemPlace)} {D : DataW H} (h : RowT w t g xs) (h' : w.ownsMap Ybaf.prog k R b n D) : g ≠ b := by
  rintro rfl
  obtain ⟨es, cl, hb, _⟩ := h'
  unfold RowT at h
  rw [h] at hb
  cases hb
theorem grownBy_setCell (w : World) (g i : Nat) (v : Value) : w.grownBy (w.setCell ⟨g, i, none⟩ v) (some g) :=
  ⟨rfl, rfl, rfl, by simp [World.setCell], fun k _ hne => Below.heap_setCell w _ v k (fun e => hne (by rw [e]))⟩

/-- Only these blocks have turned; others are new. -/
structure But (S : List Nat) (w w' : World) : Prop where
  os : w'.os = w.os
  tape : w'.tape = w.tape
  output : w'.output = w.output
  size : w.heap.size ≤ w'.heap.size
  block : ∀ b, b < w.heap.size → b ∉ S → w'.heap[b]? = w.heap[b]?

theorem But.refl (S : List Nat) (w : World) : But S w w := ⟨rfl, rfl, rfl, Nat.le_refl _, fun _ _ _ => rfl⟩
theorem But.next {S : List Nat} {a b c : World} {row : Option Nat} (h : But S a b) (k : b.grownBy c row) (hr : ∀ g, row = some g → g ∈ S) : But S a c :=
  ⟨k.os.trans h.os, k.tape.trans h.tape, k.output.trans h.output, Nat.le_trans h.size k.size, fun i hi hne => (k.block i (Nat.lt_of_lt_of_le hi h.size) (fun e => hne (hr i e.symm))).trans (h.block i hi hne)⟩
theorem But.drew {S : List Nat} {a b : World} (h : But S a b) : But S a b.drew := ⟨h.os, h.tape, h.output, h.size, h.block⟩
theorem But.row {S : List Nat} {w w' : World} {t : TypeId} {g : Nat} {xs : List Value} (h : But S w w') (hr : RowT w t g xs) (hg : g ∉ S) : RowT w' t g xs := (h.block g hr.lt hg).trans hr
theorem But.map {H : Type} {S : List Nat} {w w' : World} {k : TypeId} {b n : Nat} {R : Value → Option (DataW H × List MemPlace)} {D : DataW H} (h : But S w w') (hr : w.ownsMap Ybaf.prog k R b n D) (hg : b ∉ S) : w'.ownsMap Ybaf.prog k R b n D := by
  have hlt := hr.lt
  obtain ⟨es, clock, hb, F, hs, hD⟩ := hr
  exact ⟨es, clock, (h.block b hlt hg).trans hb, F, hs, hD⟩
theorem But.below {S : List Nat} {w w' : World} {B : Nat} (h : But S w w') (hS : ∀ b ∈ S, B ≤ b) (hB : B ≤ w.heap.size) : Below B w w' :=
  ⟨h.os, h.tape, h.output, h.size, fun k hk => h.block k (Nat.lt_of_lt_of_le hk hB) (fun e => by have := hS k e; omega)⟩

def procD (k : Nat) : DataW Unit := (List.range k).foldl (fun D i => D.put (.string (idB i).data.toList) (.lit (.int .i64 i))) (.map [])
theorem procD_succ (k : Nat) : procD (k + 1) = (procD k).put (.string (idB k).data.toList) (.lit (.int .i64 k)) := by
  unfold procD; rw [List.range_succ, List.foldl_append]; rfl
def crL (cm k n : Nat) : List Value := (List.range n).map fun i => .bool (decide (i < k) && bitN cm i)
theorem crL_step (cm k n : Nat) : (crL cm k n).set k (.bool (bitN cm k)) = crL cm (k + 1) n := by
  unfold crL
  apply List.ext_getElem
  · simp
  · intro i h1 h2
    rw [List.getElem_set]
    simp only [List.getElem_map, List.getElem_range]
    split
    · subst_vars; simp
    · rename_i hne
      congr 2
      by_cases h : i < k
      · simp [h]; omega
      · simp [h]; omega
theorem crL_zero (cm n : Nat) : List.replicate n (Value.bool false) = crL cm 0 n := by
  unfold crL
  apply List.ext_getElem
  · simp
  · intro i h1 h2; simp
theorem crL_len (cm k n : Nat) : (crL cm k n).length = n := by simp [crL]

theorem Ybaf.law9 : Keyed Ybaf.prog 9 := string_keyed Ybaf.underlying9
theorem idB_key (i : Nat) : keyOf Ybaf.prog 9 (.string (idB i)) = some (.string (idB i).data.toList) := key_of _ (by unfold maxLen; simp [idB, ByteArray.size])

theorem own_kept {w w' : World} {B n : Nat} {v : Value} {xs : List Value} (h : w.ownsRow B 9 1 v n xs) (hk : ∀ (b : Nat) (cur : Array Value), w.heap[b]? = some (Obj.cells cur 9 (0, 0)) → w'.heap[b]? = w.heap[b]?) : w'.ownsRow B 9 1 v n xs := by
  refine ⟨h.1, h.2.imp id ?_⟩
  rintro ⟨g, cap, cur, a1, a2, a3, a4⟩
  exact ⟨g, cap, cur, a1, a2, (hk g cur a3).trans a3, a4⟩

def nodeL (t dl x y : Nat) : List Value := [.string (idB t), .int .i64 t, .slice none 0 0, .int .i64 0, .int .u64 0, .map (some dl), .int .u64 1, .map (some x), .map (some y)]

/-- What the built things read as. -/
structure Built (B n mm cm t : Nat) (w : World) (lc g : Nat) (m : Nat → Nat) (ao : Option Addr) (mc nd dl : Nat) : Prop where
  row : RowT w 47 lc (lcCells n m)
  grp : RowT w 30 g [.slice ao (memN mm n).length mc, .int .i64 (survN mm cm n)]
  mem : w.ownsRow 0 9 1 (.slice ao (memN mm n).length mc) (memN mm n).length (memV mm n)
  groups : w.ownsMap Ybaf.prog 9 ptrElem (m 0) 1 (dG g)
  procs : w.ownsMap Ybaf.prog 9 (plainElem Ybaf.prog 3) (m 4) n (procD n)
  nodes : w.ownsMap Ybaf.prog 9 ptrElem (m 11) 1 ((DataW.map []).put (.string (idB t).data.toList) (.lit (.int .i64 nd)))
  crashed : RowT w 4 (m 6) (crL cm n n)
  node : ∃ x y, RowT w 68 nd (nodeL t dl x y)
  deliv : w.ownsMap (H := Unit) Ybaf.prog 3 (plainElem Ybaf.prog 4) dl 0 (.map [])
  le : B ≤ lc ∧ B ≤ g ∧ B ≤ m 6

/-- .. ahead of the node's laying. -/
structure Five (n mm cm : Nat) (w : World) (lc g : Nat) (m : Nat → Nat) (ao : Option Addr) (mc dl : Nat) : Prop where
  row : RowT w 47 lc (lcCells n m)
  grp : RowT w 30 g [.slice ao (memN mm n).length mc, .int .i64 (survN mm cm n)]
  mem : w.ownsRow 0 9 1 (.slice ao (memN mm n).length mc) (memN mm n).length (memV mm n)
  groups : w.ownsMap Ybaf.prog 9 ptrElem (m 0) 1 (dG g)
  procs : w.ownsMap Ybaf.prog 9 (plainElem Ybaf.prog 3) (m 4) n (procD n)
  nodes : w.ownsMap Ybaf.prog 9 ptrElem (m 11) 0 (.map [])
  crashed : RowT w 4 (m 6) (crL cm n n)
  deliv : w.ownsMap (H := Unit) Ybaf.prog 3 (plainElem Ybaf.prog 4) dl 0 (.map [])
  ne0 : m 0 ≠ m 11
  ne4 : m 4 ≠ m 11
  neD : dl ≠ m 11

theorem heap_new (w : World) (o : Obj) : (w.alloc o).heap[w.heap.size]? = some o := (show (w.heap.push _)[w.heap.size]? = _ from Array.getElem?_push_size)

theorem Five.built {B n mm cm t : Nat} {w w' : World} {lc g : Nat} {m : Nat → Nat} {ao : Option Addr} {mc dl x y : Nat} (h : Five n mm cm w lc g m ao mc dl) (hle : B ≤ lc ∧ B ≤ g ∧ B ≤ m 6)
    (ho : w'.ownsMap Ybaf.prog 9 ptrElem (m 11) 1 ((DataW.map []).put (.string (idB t).data.toList) (.lit (.int .i64 ((w.heap.size + 2 : Nat) : Int)))))
    (hg : ((((w.alloc (.map #[] 0)).alloc (.map #[] 0)).alloc (.cells (nodeL t dl x y).toArray 68)).drew).grownBy w' (some (m 11))) :
    Built B n mm cm t w' lc g m ao mc (w.heap.size + 2) dl := by
  have hlt := h.nodes.lt
  have ga : w.grownBy ((((w.alloc (.map #[] 0)).alloc (.map #[] 0)).alloc (.cells (nodeL t dl x y).toArray 68)).drew) none := by
    have := grownBy_trans (grownBy_trans (World.grownBy_alloc w (.map #[] 0) none) (World.grownBy_alloc _ (.map #[] 0) none)) (World.grownBy_alloc _ (.cells (nodeL t dl x y).toArray 68) none)
    exact ⟨this.os, this.tape, this.output, this.size, this.block⟩
  have gg : w.grownBy w' (some (m 11)) := grownBy_trans (grownBy_none ga) hg
  have nr : ∀ {t' : TypeId} {b : Nat} {xs : List Value}, RowT w t' b xs → some b ≠ some (m 11) := fun hr e => hr.neMap h.nodes (by simpa using e)
  refine ⟨h.row.kept gg (nr h.row), h.grp.kept gg (nr h.grp), ?_, h.groups.kept gg (by simpa using h.ne0), h.procs.kept gg (by simpa using h.ne4), ho, h.crashed.kept gg (nr h.crashed), ⟨x, y, ?_⟩, h.deliv.kept gg (by simpa using h.neD), hle⟩
  · refine own_kept h.mem fun b cur hb => gg.block b (Array.getElem?_eq_some_iff.1 hb).1 ?_
    intro e
    obtain ⟨es, cl, hm, _⟩ := h.nodes
    rw [Option.some.inj e, hm] at hb
    cases hb
  · have h2 : RowT ((((w.alloc (.map #[] 0)).alloc (.map #[] 0)).alloc (.cells (nodeL t dl x y).toArray 68)).drew) 68 (w.heap.size + 2) (nodeL t dl x y) := by
      have := heap_new ((w.alloc (.map #[] 0)).alloc (.map #[] 0)) (.cells (nodeL t dl x y).toArray 68)
      rw [show ((w.alloc (.map #[] 0)).alloc (.map #[] 0)).heap.size = w.heap.size + 2 by simp] at this
      exact this
    refine h2.kept hg (fun e => ?_)
    have := Option.some.inj e
    omega

end Go.Proofs.YbulkczjkFmt
