/-
  LawS5041BEncodes: walked.
-/
import Derived.Test.YbulkczjkStamp
import Derived.Laws.CopyOwn
import Derived.Laws.IdiomStrings
import Derived.Deep.QuietTactic
import Derived.BigQuiet
namespace Go.Proofs.Ybulkczjk
open Go.RowKit

/-- A slice of bytes that came in. -/
def ViewB (w : World) (ao : Option Addr) (n : Nat) (tl : List UInt8) : Prop :=
  tl.length = n ∧ (0 < n → ∃ b o, ao = some ⟨b, o, none⟩ ∧ b < w.heap.size ∧ ∀ i (hi : i < tl.length), w.cell? ⟨b, o + i, none⟩ = some (.int .u8 (tl[i]).toNat))

theorem ViewB.later {w w' : World} {ao : Option Addr} {n : Nat} {L : List UInt8} (h : ViewB w ao n L) (hb : Below w.heap.size w w') : ViewB w' ao n L := by
  refine ⟨h.1, fun h0 => ?_⟩
  obtain ⟨b, o, e, hbw, hc⟩ := h.2 h0
  exact ⟨b, o, e, Nat.lt_of_lt_of_le hbw hb.size, fun i hi => (hb.cell (by exact hbw)).trans (hc i hi)⟩

theorem byteCells_one (l : List UInt8) : ∀ u ∈ Lib.byteCells l, u.oneCell' = true := by
  intro u hu
  obtain ⟨b, _, rfl⟩ := List.mem_map.1 hu
  rfl

theorem tail_cells {w : World} {ad : Addr} {n : Nat} {tl : List UInt8} (h : ViewB w (some ad) n tl) :
    ∀ j u, (Lib.byteCells tl)[j]? = some u → w.cell? (ad.add j) = some u := by
  intro j u hj
  obtain ⟨hl, hc⟩ := h
  have hjl : j < tl.length := by
    by_cases hh : j < tl.length
    · exact hh
    · rw [List.getElem?_eq_none (by rw [Lib.byteCells_length]; omega)] at hj; cases hj
  obtain ⟨b, o, e, hbw, hcc⟩ := hc (by omega)
  cases e
  have hadd : (⟨b, o, none⟩ : Addr).add j = ⟨b, o + j, none⟩ := by simp [Addr.add]
  rw [hadd, hcc j hjl]
  simp only [Lib.byteCells, List.getElem?_map, List.getElem?_eq_getElem hjl, Option.map_some] at hj
  exact hj

theorem own_full {w : World} {B e r n : Nat} {xs : List Value} (h : w.ownsRow B e 1 (.slice (some ⟨r, 0, none⟩) n n) n xs) : w.heap[r]? = some (.cells xs.toArray e (0, 0)) := by
  rcases h.2 with ⟨h', _⟩ | ⟨g', cap', cur, h', _, hg, _, _, hs, htake⟩
  · simp at h'
  · simp only [Value.slice.injEq, Option.some.injEq, Addr.mk.injEq, and_true, true_and] at h'
    obtain ⟨rfl, rfl⟩ := h'
    rw [List.take_of_length_le (by simp at hs ⊢; omega)] at htake
    rw [hg, ← htake]

theorem splice_all {Z : List Value} {L : List UInt8} (hZ : Z.length = L.length) : splice Z 0 (Lib.byteCells L) = Lib.byteCells L := by
  simp [splice, Lib.byteCells_length, hZ]

/-- A row of bytes, whole, as a block of its own. -/
def RowB (w : World) (g : Nat) (L : List UInt8) : Prop := w.heap[g]? = some (.cells (Lib.byteCells L).toArray 5 (0, 0))

theorem RowB.later {w w' : World} {g : Nat} {L : List UInt8} (h : RowB w g L) (hb : Below w.heap.size w w') : RowB w' g L :=
  (hb.block g (Array.getElem?_eq_some_iff.1 h).1).trans h

theorem RowB.tip {w : World} {g : Nat} {L : List UInt8} (h : RowB w g L) : Tip w none w (.slice (some ⟨g, 0, none⟩) L.length L.length) L.length (Lib.byteCells L) := by
  refine ⟨World.grownBy.refl _ _, Lib.byteCells_length L, .inl ⟨_, rfl, (fun e => by cases e), fun b hb j u hj => ?_⟩⟩
  cases hb
  have hadd : (⟨g, 0, none⟩ : Addr).add j = ⟨g, j, none⟩ := by unfold Addr.add; split <;> simp_all
  rw [hadd, cell_of_row w g j _ _ _ h]
  simpa using hj

theorem Yba.size5 : (Yba.prog.info? 5).map (·.size) = some 1 := by kernel_rfl
theorem Yba.info29 : (Yba.prog.info? 29).map (fun i => (i.zero, i.size, i.bytes)) = some (some (.agg #[.int .u64 0, .int .u64 0]), 2, 16) := by kernel_rfl

/-- st's cells behind k rounds. -/
def stCells (al ca : Nat → Nat) (m k : Nat) : List Value := ((List.range k).flatMap fun i => [Value.int .u64 (al i), Value.int .u64 (ca i)]) ++ List.replicate (2 * (m - k)) (Value.int .u64 0)

theorem pre_len (al ca : Nat → Nat) (k : Nat) : ((List.range k).flatMap fun i => [Value.int .u64 (al i), Value.int .u64 (ca i)]).length = 2 * k := by
  induction k with
  | zero => rfl
  | succ k ih => rw [List.range_succ, List.flatMap_append, List.length_append, ih]; simp; omega

theorem st_step (al ca : Nat → Nat) (m k : Nat) (hk : k < m) : ((stCells al ca m k).set (k * 2) (.int .u64 (al k))).set (k * 2 + 1) (.int .u64 (ca k)) = stCells al ca m (k + 1) := by
  have hl := pre_len al ca k
  unfold stCells
  rw [show 2 * (m - k) = 2 * (m - (k + 1)) + 1 + 1 by omega, List.replicate_succ, List.replicate_succ, List.range_succ, List.flatMap_append]
  generalize ((List.range k).flatMap fun i => [Value.int .u64 (al i), Value.int .u64 (ca i)]) = pre at hl
  rw [List.set_append_right _ _ (by omega), List.set_append_right _ _ (by omega), hl]
  rw [show k * 2 - 2 * k = 0 by omega, show k * 2 + 1 - 2 * k = 1 by omega]
  simp

theorem st_at (al ca : Nat → Nat) (m k i : Nat) (hi : i < k) : (stCells al ca m k)[i * 2]? = some (.int .u64 (al i)) ∧ (stCells al ca m k)[i * 2 + 1]? = some (.int .u64 (ca i)) := by
  have key : ∀ k, i < k → ((List.range k).flatMap fun i => [Value.int .u64 (al i), Value.int .u64 (ca i)])[i * 2]? = some (.int .u64 (al i)) ∧ ((List.range k).flatMap fun i => [Value.int .u64 (al i), Value.int .u64 (ca i)])[i * 2 + 1]? = some (.int .u64 (ca i)) := by
    intro k
    induction k with
    | zero => intro h; omega
    | succ k ih =>
      intro h
      have hl := pre_len al ca k
      rw [List.range_succ, List.flatMap_append]
      by_cases hik : i < k
      · obtain ⟨h1, h2⟩ := ih hik
        rw [List.getElem?_append_left (by omega), List.getElem?_append_left (by omega)]
        exact ⟨h1, h2⟩
      · obtain rfl : i = k := by omega
        rw [List.getElem?_append_right (by omega), List.getElem?_append_right (by omega), hl, show i * 2 - 2 * i = 0 by omega, show i * 2 + 1 - 2 * i = 1 by omega]
        simp
  obtain ⟨h1, h2⟩ := key k hi
  have hl := pre_len al ca k
  unfold stCells
  rw [List.getElem?_append_left (by omega), List.getElem?_append_left (by omega)]
  exact ⟨h1, h2⟩

theorem st_len (al ca : Nat → Nat) (m k : Nat) (hk : k ≤ m) : (stCells al ca m k).length = 2 * m := by
  unfold stCells
  rw [List.length_append, pre_len, List.length_replicate]
  omega

theorem st_made (al ca : Nat → Nat) (m : Nat) : (madeCells #[Value.int .u64 0, Value.int .u64 0] (m * 2)).toList = stCells al ca m 0 := by
  apply List.ext_getElem
  · simp [madeCells, stCells]; omega
  · intro i h1 h2
    simp [madeCells, stCells]
    rcases Nat.mod_two_eq_zero_or_one i with h | h <;> simp [h]

/-- st's block. -/
def RowS (w : World) (g : Nat) (xs : List Value) : Prop := w.heap[g]? = some (.cells xs.toArray 29 (0, 0))

theorem own_full2 {w : World} {B r n : Nat} {xs : List Value} (h : w.ownsRow B 29 2 (.slice (some ⟨r, 0, none⟩) n n) n xs) : RowS w r xs := by
  rcases h.2 with ⟨h', _⟩ | ⟨g', cap', cur, h', _, hg, _, _, hs, htake⟩
  · simp at h'
  · simp only [Value.slice.injEq, Option.some.injEq, Addr.mk.injEq, and_true, true_and] at h'
    obtain ⟨rfl, rfl⟩ := h'
    rw [List.take_of_length_le (by simp at hs ⊢; omega)] at htake
    unfold RowS
    rw [hg, ← htake]

theorem RowS.cell {w : World} {g : Nat} {xs : List Value} (h : RowS w g xs) (j : Nat) : w.cell? ⟨g, j, none⟩ = xs[j]? := by
  rw [cell_of_row w g j _ _ _ h]; simp

theorem RowS.frozen {w : World} {g : Nat} {xs : List Value} (h : RowS w g xs) (j : Nat) : w.frozen? ⟨g, j, none⟩ = false := by
  unfold RowS at h
  simp [World.frozen?, h]

theorem RowS.later {w w' : World} {g : Nat} {xs : List Value} (h : RowS w g xs) (hb : Below w.heap.size w w') : RowS w' g xs :=
  (hb.block g (Array.getElem?_eq_some_iff.1 h).1).trans h

theorem RowS.set {w : World} {g : Nat} {xs : List Value} (h : RowS w g xs) (i : Nat) (v : Value) : RowS (w.setCell ⟨g, i, none⟩ v) g (xs.set i v) := by
  unfold RowS at h ⊢
  simp only [World.setCell, Array.getElem?_modify]
  simp [h]

theorem RowS.alloc {w : World} {g : Nat} {xs : List Value} (h : RowS w g xs) (o : Obj) : RowS (w.alloc o) g xs :=
  (Below.heap_alloc w o g (Array.getElem?_eq_some_iff.1 h).1).trans h

theorem RowS.pairs {w : World} {g : Nat} {al ca : Nat → Nat} {m : Nat} (h : RowS w g (stCells al ca m m)) (hl : ∀ i, i < m → al i < 18446744073709551616 ∧ ca i < 18446744073709551616) : Pairs w (some ⟨g, 0, none⟩) m al ca := by
  refine ⟨fun _ => ⟨g, 0, rfl, (Array.getElem?_eq_some_iff.1 h).1, fun i hi => ?_⟩, hl⟩
  obtain ⟨h1, h2⟩ := st_at al ca m m i hi
  rw [show 0 + i * 2 = i * 2 by omega, h.cell, h.cell]
  exact ⟨h1, h2⟩

theorem below_of_none {a b : World} (h : a.grownBy b none) : Below a.heap.size a b := ⟨h.os, h.tape, h.output, h.size, fun k hk => h.block k hk (by simp)⟩

/-- What 'string(..)' of a slice of these bytes gives. -/
def Conv (w : World) (v : Value) (l : List UInt8) : Prop := (convert 22 9 v).run Yba.prog w = .ok (.string ⟨l.toArray⟩) w

theorem conv_view {w : World} {ao : Option Addr} {c : Nat} {l : List UInt8} (h : ViewB w ao l.length l) : Conv w (.slice ao l.length c) l := by
  cases ao with
  | none =>
    have h0 : l.length = 0 := by
      rcases Nat.eq_zero_or_pos l.length with h0 | h0
      · exact h0
      · obtain ⟨_, _, e, _⟩ := h.2 h0; cases e
    obtain rfl : l = [] := List.length_eq_zero_iff.1 h0
    unfold Conv
    rw [run_convert_bytes_string w 22 9 5 none _ c Yba.underlying22 Yba.underlying5 Yba.underlying9]
    rfl
  | some a =>
    refine run_convert_bytes_back (P := Yba.prog) w 22 9 5 a c l Yba.underlying22 Yba.underlying5 Yba.underlying9 fun j hj => ?_
    have := tail_cells h j (.int .u8 (l[j]).toNat) (by simp [Lib.byteCells, hj])
    exact this

theorem conv_tip {W : World} {row : Option Nat} {w : World} {v : Value} {n : Nat} {l : List UInt8} (h : Tip W row w v n (Lib.byteCells l)) : Conv w v l := by
  have hn : l.length = n := by rw [← h.len, Lib.byteCells_length]
  subst hn
  rcases h.val with ⟨ao, rfl, h1, h2⟩ | ⟨g, cap, rfl, h1, _⟩
  · cases ao with
    | none =>
      obtain rfl : l = [] := List.length_eq_zero_iff.1 (h1 rfl)
      unfold Conv
      rw [run_convert_bytes_string w 22 9 5 none _ _ Yba.underlying22 Yba.underlying5 Yba.underlying9]
      rfl
    | some a => exact run_convert_bytes_back (P := Yba.prog) w 22 9 5 a _ l Yba.underlying22 Yba.underlying5 Yba.underlying9 fun j hj => h2 a rfl j _ (by simp [Lib.byteCells, hj])
  · exact run_convert_bytes_back (P := Yba.prog) w 22 9 5 ⟨g, 0, none⟩ cap l Yba.underlying22 Yba.underlying5 Yba.underlying9 fun j hj => h1.cells rfl j _ (by simp [Lib.byteCells, hj])

set_option maxHeartbeats 400000 in
theorem equal_any (va vb : Value) (l : List UInt8) (w : World) (ha : Conv w va l) (hb : Conv w vb l) : Calls Yba.prog 7 #[va, vb] w fun e w' => e = .returned (.bool true) ∧ w' = w := by
  unfold Conv at ha hb
  generalize (⟨l.toArray⟩ : ByteArray) = s at ha hb
  go_enter Yba.func7, Yba.ntmps7
  go_wp2
  go_ret
  exact ⟨rfl, rfl⟩

/-- A value that nothing has written since. -/
theorem Tip.later {W : World} {row : Option Nat} {w w' : World} {v : Value} {n : Nat} {xs : List Value} (h : Tip W row w v n xs) (hb : Below w.heap.size w w') : Tip w' none w' v n xs ∨ Tip w' v.ownBlock w' v n xs := by
  rcases h.val with ⟨ao, rfl, h1, h2⟩ | ⟨g, cap, rfl, h1, h2⟩
  · exact .inl ⟨World.grownBy.refl _ _, h.len, .inl ⟨ao, rfl, h1, fun b hb' j u hj => (hb.cell (World.block_lt_of_cell? w _ (h2 b hb' j u hj))).trans (h2 b hb' j u hj)⟩⟩
  · refine .inr ⟨World.grownBy.refl _ _, h.len, .inr ⟨g, cap, rfl, h1.kept (row := none) ⟨hb.os, hb.tape, hb.output, hb.size, fun k hk _ => hb.block k hk⟩ (.inr (by simp [Value.ownBlock])), .inl rfl⟩⟩

theorem conv_later {W : World} {row : Option Nat} {w w' : World} {v : Value} {n : Nat} {l : List UInt8} (h : Tip W row w v n (Lib.byteCells l)) (hb : Below w.heap.size w w') : Conv w' v l := by
  rcases h.later hb with h | h
  · exact conv_tip h
  · exact conv_tip h

set_option maxRecDepth 100000 in
set_option maxHeartbeats 3200000 in
theorem enc_any (ao sa : Option Addr) (cap m sc : Nat) (L : List UInt8) (al ca : Nat → Nat) (w : World) (hL : L.length ≤ 1024) (hm : m ≤ 1024) (hv : ViewB w ao L.length L) (hp : Pairs w sa m al ca) :
    Calls Yba.prog 3 #[.slice ao L.length cap, .slice sa m sc] w fun e w' => e = .returned (.bool true) ∧ Below w.heap.size w w' := by
  have HV := hide hv
  have HP := hide hp
  clear hv hp
  have d1 : decide ((1024 : Int) < (L.length : Int)) = false := by simp; omega
  have d2 : decide ((1024 : Int) < (m : Int)) = false := by simp; omega
  obtain ⟨i5, hi5, hz50, hz51, hz52⟩ := info_parts Yba.info5
  obtain ⟨i9, hi9, hz90, hz91, hz92⟩ := info_parts Yba.info29
  have HN : Hid ((Lib.byteCells L).length = Nat.min L.length L.length) := by show _ = _; rw [Lib.byteCells_length]; simp
  have H1 := hide (byteCells_one L)
  go_enter Yba.func3, Yba.ntmps3
  go_wp2_with (at_make; refine wpList_make_full _ rfl (.tmp 24) (.tmp 24) 22 rfl w.heap.size 5 i5 (.int .u8 0) 1 Yba.underlying22 hi5 hz50 hz51 .i64 .i64 L.length L.length L.length rfl rfl rfl rfl ?c1 ?c2 ?c3 ?_)
  case c1 => rw [hz52]; omega
  case c2 => unfold maxLen; omega
  case c3 => exact Nat.le_refl _
  intro w1 hown hgr
  obtain ⟨Z, hZe⟩ : ∃ Z, Z = (madeCells #[Value.int IntKind.u8 0] L.length).toList := ⟨_, rfl⟩
  have hZ : Z.length = L.length := by rw [hZe]; simp [madeCells]
  rw [← hZe] at hown
  have HG := hide (own_full hown)
  have HB := hide (Below.grown (Below.refl w.heap.size w) hgr (Nat.le_refl _) (fun k hk => by cases hk))
  have HZ := hide hZ
  clear hZe hZ hown hgr
  have HPP : Hid (0 < (Lib.byteCells L).length → (some (⟨w.heap.size, 0, none⟩ : Addr)) = some ⟨w.heap.size, 0, none⟩ ∧ ∃ ad', ao = some ad' ∧ ∀ j v, (Lib.byteCells L)[j]? = some v → w1.cell? (ad'.add j) = some v) := by
    intro h0
    rw [Lib.byteCells_length] at h0
    obtain ⟨b, o, e, _⟩ := HV.out.2 h0
    have hx := HV.out.later HB.out
    rw [e] at hx
    exact ⟨rfl, _, e, tail_cells hx⟩
  have HF : Hid (0 + (Lib.byteCells L).length ≤ Z.length) := by show _ ≤ _; rw [Lib.byteCells_length, HZ.out]; omega
  go_wp2_with (first
    | (at_make; refine wpList_make_full _ rfl (.tmp 30) (.tmp 30) 24 rfl 0 29 i9 (.agg #[.int .u64 0, .int .u64 0]) 2 Yba.underlying24 hi9 hz90 hz91 .i64 .i64 m m m rfl rfl rfl rfl ?c4 ?c5 ?c6 ?_)
    | (refine wpList_copy_splice rfl (.tmp 26) (.tmp 27) 22 22 rfl 5 Yba.underlying22 Yba.size5 (some ⟨w.heap.size, 0, none⟩) ao L.length L.length L.length cap rfl rfl w.heap.size 0 Z 5 HG.out (Lib.byteCells L) HN.out HPP.out HF.out H1.out w.heap.size w HB.out (Nat.le_refl _) ?_; intro w2 hg2 hb2; have HB2 := hide hb2; clear hb2))
  case c4 => omega
  case c5 => unfold maxLen; omega
  intro w3 hown3 hgr3
  rw [splice_all HZ.out] at hg2
  have HR2 : Hid (RowB w2 w.heap.size L) := hg2
  rw [st_made al ca] at hown3
  have HB3 : Hid (Below w2.heap.size w2 w3) := Below.grown (Below.refl _ _) hgr3 (Nat.le_refl _) (fun k hk => by cases hk)
  have HS3 := hide (own_full2 hown3)
  clear hg2 hown3 hgr3 HG HB HZ HF HPP hi9 hz90 hz91 hz92
  go_wp2_with fail
  go_loopw [34] (fun i wr => ∃ k : Nat, k ≤ m ∧ i = .int .i64 k ∧ Hid (RowS wr w2.heap.size (stCells al ca m k)) ∧ Hid (Below w2.heap.size w2 wr)) (fun i _ => m - (intOf i).toNat)
  case atStart => exact ⟨0, Nat.zero_le _, rfl, HS3, HB3⟩
  case round =>
    obtain ⟨k, hk, rfl, hrow, hbel⟩ := hrel
    clear HS3 HB3
    by_cases hlt : k < m
    · have hbw : Below w.heap.size w wr := HB2.out.trans (hbel.out.mono HB2.out.size)
      obtain ⟨b, o, rfl, hblt, hcs⟩ := HP.out.at_ (by omega)
      obtain ⟨hc0, hc1⟩ := hcs k hlt
      have hc0' := (hbw.cell (p := ⟨b, o + k * 2, none⟩) hblt).trans hc0
      have hc1' := (hbw.cell (p := ⟨b, o + k * 2 + 1, none⟩) hblt).trans hc1
      obtain ⟨v0, hv0⟩ : ∃ v0, wr.cell? ⟨w2.heap.size, k * 2, none⟩ = some v0 := ⟨_, by rw [hrow.out.cell, List.getElem?_eq_getElem (by rw [st_len al ca m k hk]; omega)]⟩
      obtain ⟨v1, hv1⟩ : ∃ v1, wr.cell? ⟨w2.heap.size, k * 2 + 1, none⟩ = some v1 := ⟨_, by rw [hrow.out.cell, List.getElem?_eq_getElem (by rw [st_len al ca m k hk]; omega)]⟩
      have f0 := hrow.out.frozen (k * 2)
      have f1 := hrow.out.frozen (k * 2 + 1)
      have hsz : w2.heap.size < wr.heap.size := (Array.getElem?_eq_some_iff.1 hrow.out).1
      clear hcs hc0 hc1
      have HBW := hide hbw
      clear hbw
      go_wp2_with fail
      go_roundw
      case rel =>
        refine ⟨k + 1, by omega, by go_num, RowS.alloc ?_ _, ?_⟩
        · rw [← st_step al ca m k hlt]
          exact (hrow.out.set _ _).set _ _
        · exact ((hbel.out.setCell (Nat.le_refl _) _).setCell (Nat.le_refl _) _).alloc (by simp [World.setCell]; omega) _
      case measure => simp [intOf]; omega
    · obtain rfl : m = k := by omega
      clear hlt hk
      have hbw : Below w.heap.size w wr := HB2.out.trans (hbel.out.mono HB2.out.size)
      have HBW := hide hbw
      have HIN := hide (HR2.out.later hbel.out)
      have HST := hide (stamp_any (some ⟨w2.heap.size, 0, none⟩) m m L.length al ca hm _ _ wr HIN.out.tip (hrow.out.pairs HP.out.lt) (by omega))
      clear hbw
      go_wp2_with (first
        | (go_at_call 5; refine (HST.out).mono ?_; rintro e w4 ⟨v4, rfl, ht4⟩; have HT4 := hide ht4; clear ht4)
        | (at_make; refine wpList_make_full _ rfl (.tmp 52) (.tmp 52) 22 rfl 0 5 i5 (.int .u8 0) 1 Yba.underlying22 hi5 hz50 hz51 .i64 .i64 L.length L.length L.length rfl rfl rfl rfl ?c7 ?c8 ?c9 ?_))
      case c7 => rw [hz52]; omega
      case c8 => unfold maxLen; omega
      case c9 => exact Nat.zero_le _
      intro w5 hown5 hgr5
      have HB4 := hide (below_of_none HT4.out.grown)
      have HW4 := hide (HBW.out.trans (HB4.out.mono HBW.out.size))
      obtain ⟨Z5, hZe⟩ : ∃ Z, Z = (madeCells #[Value.int IntKind.u8 0] L.length).toList := ⟨_, rfl⟩
      have hZ : Z5.length = L.length := by rw [hZe]; simp [madeCells]
      rw [← hZe] at hown5
      have HG5 := hide (own_full hown5)
      have HB5 := hide (below_of_none hgr5)
      have HZ5 := hide hZ
      clear hZe hZ hown5 hgr5 HST hi5 hz50 hz51 hz52
      have HPP : Hid (0 < (Lib.byteCells L).length → (some (⟨w4.heap.size, 0, none⟩ : Addr)) = some ⟨w4.heap.size, 0, none⟩ ∧ ∃ ad', ao = some ad' ∧ ∀ j v, (Lib.byteCells L)[j]? = some v → w5.cell? (ad'.add j) = some v) := by
        intro h0
        rw [Lib.byteCells_length] at h0
        obtain ⟨b, o, e, _⟩ := HV.out.2 h0
        have hx := (HV.out.later HW4.out).later HB5.out
        rw [e] at hx
        exact ⟨rfl, _, e, tail_cells hx⟩
      have HF : Hid (0 + (Lib.byteCells L).length ≤ Z5.length) := by show _ ≤ _; rw [Lib.byteCells_length, HZ5.out]; omega
      go_wp2_with (refine wpList_copy_splice rfl (.tmp 54) (.tmp 55) 22 22 rfl 5 Yba.underlying22 Yba.size5 (some ⟨w4.heap.size, 0, none⟩) ao L.length L.length L.length cap rfl rfl w4.heap.size 0 Z5 5 HG5.out (Lib.byteCells L) HN.out HPP.out HF.out H1.out w4.heap.size w4 HB5.out (Nat.le_refl _) ?_; intro w6 hg6 hb6; have HB6 := hide hb6; clear hb6)
      rw [splice_all HZ5.out] at hg6
      have HR6 : Hid (RowB w6 w4.heap.size L) := hg6
      have HBU := hide (buv_any w6 none m L.length (by omega) _ _ w6 HR6.out.tip (by omega))
      have HW6 := hide (HW4.out.trans (HB6.out.mono HW4.out.size))
      clear hg6 HG5 HB5 HZ5 HF HPP
      refine (HBU.out).mono ?_
      rintro e w7 ⟨v7, rfl, ht7⟩
      have HT7 : Hid (Tip w6 none w7 v7 (L.length + (encS m al ca 0).length) (Lib.byteCells L ++ Lib.byteCells (encS m al ca 0))) := by show Tip _ _ _ _ _ _; simpa [encS] using ht7
      clear ht7 HBU
      go_wp2_with fail
      go_loopw [10, 64] (fun b i wx => ∃ k : Nat, k ≤ m ∧ i = .int .i64 k ∧ Hid (Tip w6 none wx b (L.length + (encS m al ca k).length) (Lib.byteCells L ++ Lib.byteCells (encS m al ca k)))) (fun _ i _ => m - (intOf i).toNat)
      case atStart => exact ⟨0, Nat.zero_le _, rfl, HT7⟩
      case round =>
        obtain ⟨k, hk, rfl, ht⟩ := hrel
        clear HT7
        have HB7 := hide (below_of_none ht.out.grown)
        have HWX := hide (HW6.out.trans (HB7.out.mono HW6.out.size))
        by_cases hlt : k < m
        · obtain ⟨b, o, rfl, hblt, hcs⟩ := HP.out.at_ (by omega)
          obtain ⟨hc0, hc1⟩ := hcs k hlt
          have hc0' := (HWX.out.cell (p := ⟨b, o + k * 2, none⟩) hblt).trans hc0
          have hc1' := (HWX.out.cell (p := ⟨b, o + k * 2 + 1, none⟩) hblt).trans hc1
          obtain ⟨hla, hlc⟩ := HP.out.lt k hlt
          have hel := encS_le m al ca hm k hk HP.out.lt
          have hl1 := Lib.uvarint_length64 hla
          obtain ⟨rr, hbs, hrr⟩ := ht.out.base
          have hne : some wr.heap.size ≠ rr := by intro e; have := (hrr _ e.symm).2; omega
          have HRR := hide hrr
          have HNE := hide hne
          have HA := hide (buv_any (wr.alloc (.cells #[.int .u64 (al k), .int .u64 (ca k)] 27)) rr (al k) _ hla _ _ _ (hbs.self _) (by omega))
          clear hcs hc0 hc1 hbs hrr hne
          go_wp2_with fail
          refine (HA.out).mono ?_
          rintro e w8 ⟨v8, rfl, ht8⟩
          have k0 : w8.cell? ⟨wr.heap.size, 0, none⟩ = some (.int .u64 (al k)) := (cell_grown ht8.grown (a := ⟨wr.heap.size, 0, none⟩) (by simp) HNE.out).trans (by simp)
          have k1 : w8.cell? ⟨wr.heap.size, 1, none⟩ = some (.int .u64 (ca k)) := (cell_grown ht8.grown (a := ⟨wr.heap.size, 1, none⟩) (by simp) HNE.out).trans (by simp)
          have HT8 := hide ht8
          clear ht8 HA hc0' hc1'
          go_wp2_with fail
          rw [lag_wrap (al k) (ca k) hla hlc]
          refine (buv_any _ rr (lagN (al k) (ca k)) _ (lag_lt _ _) v8 _ w8 HT8.out (by omega)).mono ?_
          rintro e w9 ⟨v9, rfl, ht9⟩
          have HT9 := hide ht9
          clear ht9 k0 k1
          go_wp2_with fail
          go_roundw
          case rel =>
            refine ⟨k + 1, by omega, by go_num, Tip.join (grownBy_trans ht.out.grown (World.grownBy_alloc _ _ none)) (fun g e => (HRR.out g e).1) (tip_cast HT9.out ?_ ?_)⟩
            · rw [encS_succ, List.length_append]; unfold encP; rw [List.length_append]; omega
            · rw [encS_succ, byteCells_append]; unfold encP; rw [byteCells_append]; simp only [List.append_assoc]
          case measure => simp [intOf]; omega
        · obtain rfl : m = k := by omega
          clear hlt hk
          have HB64 := hide (HB6.out.trans (HB7.out.mono HB6.out.size))
          have hE1 : Conv wr v4 (L ++ encS m al ca m) := conv_later (tip_cast HT4.out rfl (byteCells_append _ _).symm) HB64.out
          have hE2 : Conv wr _ (L ++ encS m al ca m) := conv_tip (tip_cast ht.out rfl (byteCells_append _ _).symm)
          have HEQ1 := hide (equal_any _ _ _ wr hE1 hE2)
          have HBZ := hide (HB4.out.trans (HB64.out.mono HB4.out.size))
          have hin := HIN.out.later HBZ.out
          have hst := hrow.out.later HBZ.out
          have HEQ2 := hide (equal_any _ _ _ wr (conv_tip hin.tip) (conv_view (c := cap) (HV.out.later HWX.out)))
          have HSTZ := hide hst
          clear hE1 hE2 hin hst
          go_wp2_with fail
          refine (HEQ1.out).mono ?_
          rintro e w' ⟨rfl, hw'⟩
          obtain rfl := hw'.symm
          go_wp2_with fail
          refine (HEQ2.out).mono ?_
          rintro e w' ⟨rfl, hw'⟩
          obtain rfl := hw'.symm
          clear HEQ1 HEQ2
          go_wp2_with fail
          go_loopw [90] (fun i wx => ∃ k : Nat, k ≤ m ∧ i = .int .i64 k ∧ Hid (Below wr.heap.size wr wx)) (fun i _ => m - (intOf i).toNat)
          case atStart => exact ⟨0, Nat.zero_le _, rfl, Below.refl _ _⟩
          case round =>
            obtain ⟨k, hk, rfl, hbl⟩ := hrel
            have HWY := hide (HWX.out.trans (hbl.out.mono HWX.out.size))
            by_cases hlt : k < m
            · obtain ⟨b, o, rfl, hblt, hcs⟩ := HP.out.at_ (by omega)
              obtain ⟨hc0, hc1⟩ := hcs k hlt
              have hc0' := (HWY.out.cell (p := ⟨b, o + k * 2, none⟩) hblt).trans hc0
              have hc1' := (HWY.out.cell (p := ⟨b, o + k * 2 + 1, none⟩) hblt).trans hc1
              have hst := HSTZ.out.later hbl.out
              have hsz : w2.heap.size < wr.heap.size := (Array.getElem?_eq_some_iff.1 hst).1
              obtain ⟨s0, s1⟩ := st_at al ca m m k hlt
              have hs0 : wr.cell? ⟨w2.heap.size, k * 2, none⟩ = some (.int .u64 (al k)) := (hst.cell _).trans s0
              have hs1 : wr.cell? ⟨w2.heap.size, k * 2 + 1, none⟩ = some (.int .u64 (ca k)) := (hst.cell _).trans s1
              have hlt' : (k : Int) < (m : Int) := by omega
              clear hcs hc0 hc1 s0 s1 hst
              go_wp2_with fail
              go_quiet (fail)
              go_wp2_with fail
              go_roundw
              case rel => exact ⟨k + 1, by omega, by go_num, below_drewN (hbl.out.alloc hbl.out.size _) _⟩
              case measure => simp [intOf]; omega
            · obtain rfl : m = k := by omega
              go_wp2_with fail
              go_ret
              exact ⟨rfl, HWY.out⟩

set_option maxHeartbeats 400000 in
theorem enc_big (ao sa : Option Addr) (n cap m sc : Nat) (w : World) (h : 1024 < n ∨ 1024 < m) :
    Calls Yba.prog 3 #[.slice ao n cap, .slice sa m sc] w fun e w' => e = .returned (.bool true) ∧ Below w.heap.size w w' := by
  by_cases h1 : (1024 : Int) < (n : Int)
  · clear h
    go_enter Yba.func3, Yba.ntmps3
    go_wp2
    go_ret
    exact ⟨rfl, Below.refl _ _⟩
  · have h2 : (1024 : Int) < (m : Int) := by omega
    clear h
    go_enter Yba.func3, Yba.ntmps3
    go_wp2
    go_ret
    exact ⟨rfl, Below.refl _ _⟩

end Go.Proofs.Ybulkczjk
