/-
  A slice of pairs of the call's own: its cells; bytes that came in.
-/
import Derived.Test.YbulkczjkFmtStamp
import Derived.Laws.CopyOwn
import Derived.Laws.IdiomStrings
namespace Go.Proofs.YbulkczjkFmt
open Go.RowKit

/-- A slice of bytes that came in. -/
def ViewB (w : World) (ao : Option Addr) (n : Nat) (tl : List UInt8) : Prop :=
  tl.length = n ∧ (0 < n → ∃ b o, ao = some ⟨b, o, none⟩ ∧ b < w.heap.size ∧ ∀ i (hi : i < tl.length), w.cell? ⟨b, o + i, none⟩ = some (.int .u8 (tl[i]).toNat))

theorem ViewB.later {w w' : World} {ao : Option Addr} {n : Nat} {L : List UInt8} (h : ViewB w ao n L) (hb : Below w.heap.size w w') : ViewB w' ao n L := by
  refine ⟨h.1, fun h0 => ?_⟩
  obtain ⟨b, o, e, hbw, hc⟩ := h.2 h0
  exact ⟨b, o, e, Nat.lt_of_lt_of_le hbw hb.size, fun i hi => (hb.cell (by exact hbw)).trans (hc i hi)⟩

theorem byteCells_one (l : List UInt8) : ∀ u ∈ Lib.byteCells l, u.oneCell' = true := by
  intro u hu
  obtain ⟨b, _, rfl⟩ := List.mem_map.1 hu
  rfl

theorem tail_cells {w : World} {ad : Addr} {n : Nat} {tl : List UInt8} (h : ViewB w (some ad) n tl) :
    ∀ j u, (Lib.byteCells tl)[j]? = some u → w.cell? (ad.add j) = some u := by
  intro j u hj
  obtain ⟨hl, hc⟩ := h
  have hjl : j < tl.length := by
    by_cases hh : j < tl.length
    · exact hh
    · rw [List.getElem?_eq_none (by rw [Lib.byteCells_length]; omega)] at hj; cases hj
  obtain ⟨b, o, e, hbw, hcc⟩ := hc (by omega)
  cases e
  have hadd : (⟨b, o, none⟩ : Addr).add j = ⟨b, o + j, none⟩ := by simp [Addr.add]
  rw [hadd, hcc j hjl]
  simp only [Lib.byteCells, List.getElem?_map, List.getElem?_eq_getElem hjl, Option.map_some] at hj
  exact hj

theorem Ybaf.size5 : (Ybaf.prog.info? 5).map (·.size) = some 1 := by kernel_rfl
theorem Ybaf.info57 : (Ybaf.prog.info? 57).map (fun i => (i.zero, i.size, i.bytes)) = some (some (.agg #[.int .u64 0, .int .u64 0]), 2, 16) := by kernel_rfl

/-- st's cells behind k rounds. -/
def stCells (al ca : Nat → Nat) (m k : Nat) : List Value := ((List.range k).flatMap fun i => [Value.int .u64 (al i), Value.int .u64 (ca i)]) ++ List.replicate (2 * (m - k)) (Value.int .u64 0)

theorem pre_len (al ca : Nat → Nat) (k : Nat) : ((List.range k).flatMap fun i => [Value.int .u64 (al i), Value.int .u64 (ca i)]).length = 2 * k := by
  induction k with
  | zero => rfl
  | succ k ih => rw [List.range_succ, List.flatMap_append, List.length_append, ih]; simp; omega

theorem st_step (al ca : Nat → Nat) (m k : Nat) (hk : k < m) : ((stCells al ca m k).set (k * 2) (.int .u64 (al k))).set (k * 2 + 1) (.int .u64 (ca k)) = stCells al ca m (k + 1) := by
  have hl := pre_len al ca k
  unfold stCells
  rw [show 2 * (m - k) = 2 * (m - (k + 1)) + 1 + 1 by omega, List.replicate_succ, List.replicate_succ, List.range_succ, List.flatMap_append]
  generalize ((List.range k).flatMap fun i => [Value.int .u64 (al i), Value.int .u64 (ca i)]) = pre at hl
  rw [List.set_append_right _ _ (by omega), List.set_append_right _ _ (by omega), hl]
  rw [show k * 2 - 2 * k = 0 by omega, show k * 2 + 1 - 2 * k = 1 by omega]
  simp

theorem st_at (al ca : Nat → Nat) (m k i : Nat) (hi : i < k) : (stCells al ca m k)[i * 2]? = some (.int .u64 (al i)) ∧ (stCells al ca m k)[i * 2 + 1]? = some (.int .u64 (ca i)) := by
  have key : ∀ k, i < k → ((List.range k).flatMap fun i => [Value.int .u64 (al i), Value.int .u64 (ca i)])[i * 2]? = some (.int .u64 (al i)) ∧ ((List.range k).flatMap fun i => [Value.int .u64 (al i), Value.int .u64 (ca i)])[i * 2 + 1]? = some (.int .u64 (ca i)) := by
    intro k
    induction k with
    | zero => intro h; omega
    | succ k ih =>
      intro h
      have hl := pre_len al ca k
      rw [List.range_succ, List.flatMap_append]
      by_cases hik : i < k
      · obtain ⟨h1, h2⟩ := ih hik
        rw [List.getElem?_append_left (by omega), List.getElem?_append_left (by omega)]
        exact ⟨h1, h2⟩
      · obtain rfl : i = k := by omega
        rw [List.getElem?_append_right (by omega), List.getElem?_append_right (by omega), hl, show i * 2 - 2 * i = 0 by omega, show i * 2 + 1 - 2 * i = 1 by omega]
        simp
  obtain ⟨h1, h2⟩ := key k hi
  have hl := pre_len al ca k
  unfold stCells
  rw [List.getElem?_append_left (by omega), List.getElem?_append_left (by omega)]
  exact ⟨h1, h2⟩

theorem st_len (al ca : Nat → Nat) (m k : Nat) (hk : k ≤ m) : (stCells al ca m k).length = 2 * m := by
  unfold stCells
  rw [List.length_append, pre_len, List.length_replicate]
  omega

theorem st_made (al ca : Nat → Nat) (m : Nat) : (madeCells #[Value.int .u64 0, Value.int .u64 0] (m * 2)).toList = stCells al ca m 0 := by
  apply List.ext_getElem
  · simp [madeCells, stCells]; omega
  · intro i h1 h2
    simp [madeCells, stCells]
    rcases Nat.mod_two_eq_zero_or_one i with h | h <;> simp [h]

/-- st's block. -/
def RowS (w : World) (g : Nat) (xs : List Value) : Prop := w.heap[g]? = some (.cells xs.toArray 57 (0, 0))

theorem own_full2 {w : World} {B r n : Nat} {xs : List Value} (h : w.ownsRow B 57 2 (.slice (some ⟨r, 0, none⟩) n n) n xs) : RowS w r xs := by
  rcases h.2 with ⟨h', _⟩ | ⟨g', cap', cur, h', _, hg, _, _, hs, htake⟩
  · simp at h'
  · simp only [Value.slice.injEq, Option.some.injEq, Addr.mk.injEq, and_true, true_and] at h'
    obtain ⟨rfl, rfl⟩ := h'
    rw [List.take_of_length_le (by simp at hs ⊢; omega)] at htake
    unfold RowS
    rw [hg, ← htake]

theorem RowS.cell {w : World} {g : Nat} {xs : List Value} (h : RowS w g xs) (j : Nat) : w.cell? ⟨g, j, none⟩ = xs[j]? := by
  rw [cell_of_row w g j _ _ _ h]; simp

theorem RowS.frozen {w : World} {g : Nat} {xs : List Value} (h : RowS w g xs) (j : Nat) : w.frozen? ⟨g, j, none⟩ = false := by
  unfold RowS at h
  simp [World.frozen?, h]

theorem RowS.later {w w' : World} {g : Nat} {xs : List Value} (h : RowS w g xs) (hb : Below w.heap.size w w') : RowS w' g xs :=
  (hb.block g (Array.getElem?_eq_some_iff.1 h).1).trans h

theorem RowS.set {w : World} {g : Nat} {xs : List Value} (h : RowS w g xs) (i : Nat) (v : Value) : RowS (w.setCell ⟨g, i, none⟩ v) g (xs.set i v) := by
  unfold RowS at h ⊢
  simp only [World.setCell, Array.getElem?_modify]
  simp [h]

theorem RowS.alloc {w : World} {g : Nat} {xs : List Value} (h : RowS w g xs) (o : Obj) : RowS (w.alloc o) g xs :=
  (Below.heap_alloc w o g (Array.getElem?_eq_some_iff.1 h).1).trans h

theorem RowS.pairs {w : World} {g : Nat} {al ca : Nat → Nat} {m : Nat} (h : RowS w g (stCells al ca m m)) (hl : ∀ i, i < m → al i < 18446744073709551616 ∧ ca i < 18446744073709551616) : Pairs w (some ⟨g, 0, none⟩) m al ca := by
  refine ⟨fun _ => ⟨g, 0, rfl, (Array.getElem?_eq_some_iff.1 h).1, fun i hi => ?_⟩, hl⟩
  obtain ⟨h1, h2⟩ := st_at al ca m m i hi
  rw [show 0 + i * 2 = i * 2 by omega, h.cell, h.cell]
  exact ⟨h1, h2⟩

theorem below_of_none {a b : World} (h : a.grownBy b none) : Below a.heap.size a b := ⟨h.os, h.tape, h.output, h.size, fun k hk => h.block k hk (by simp)⟩

/-- What 'string(..)' of a slice of these bytes gives. -/
def Conv (w : World) (v : Value) (l : List UInt8) : Prop := (convert 51 9 v).run Ybaf.prog w = .ok (.string ⟨l.toArray⟩) w

theorem conv_view {w : World} {ao : Option Addr} {c : Nat} {l : List UInt8} (h : ViewB w ao l.length l) : Conv w (.slice ao l.length c) l := by
  cases ao with
  | none =>
    have h0 : l.length = 0 := by
      rcases Nat.eq_zero_or_pos l.length with h0 | h0
      · exact h0
      · obtain ⟨_, _, e, _⟩ := h.2 h0; cases e
    obtain rfl : l = [] := List.length_eq_zero_iff.1 h0
    unfold Conv
    rw [run_convert_bytes_string w 51 9 5 none _ c Ybaf.underlying51 Ybaf.underlying5 Ybaf.underlying9]
    rfl
  | some a =>
    refine run_convert_bytes_back (P := Ybaf.prog) w 51 9 5 a c l Ybaf.underlying51 Ybaf.underlying5 Ybaf.underlying9 fun j hj => ?_
    have := tail_cells h j (.int .u8 (l[j]).toNat) (by simp [Lib.byteCells, hj])
    exact this

set_option maxHeartbeats 400000 in
theorem equal_any (va vb : Value) (l : List UInt8) (w : World) (ha : Conv w va l) (hb : Conv w vb l) : Calls Ybaf.prog 11 #[va, vb] w fun e w' => e = .returned (.bool true) ∧ w' = w := by
  unfold Conv at ha hb
  generalize (⟨l.toArray⟩ : ByteArray) = s at ha hb
  go_enter Ybaf.func11, Ybaf.ntmps11
  go_wp2
  go_ret
  exact ⟨rfl, rfl⟩

end Go.Proofs.YbulkczjkFmt
