/-
  encoding/binary.AppendUvarint, appendTimes: walked, with the frame to the block.
-/
import Derived.Test.YbulkczjkFmtTip
namespace Go.Proofs.YbulkczjkFmt
open Go.RowKit

theorem Tip.alloc {W : World} {row : Option Nat} {w : World} {v : Value} {n : Nat} {xs : List Value} (h : Tip W row w v n xs) (o : Obj) : Tip W row (w.alloc o) v n xs := by
  refine ⟨grownBy_trans h.grown (World.grownBy_alloc w o row), h.len, ?_⟩
  rcases h.val with ⟨ao, rfl, h1, h2⟩ | ⟨g, cap, rfl, h1, h2⟩
  · exact .inl ⟨ao, rfl, h1, fun b hb j u hj => cell_old (h2 b hb j u hj)⟩
  · exact .inr ⟨g, cap, rfl, h1.alloc o, h2⟩

theorem Tip.drewN {W : World} {row : Option Nat} {w : World} {v : Value} {n : Nat} {xs : List Value} (h : Tip W row w v n xs) (q : Nat) : Tip W row (w.drewN q) v n xs :=
  ⟨⟨h.grown.os, h.grown.tape, h.grown.output, h.grown.size, h.grown.block⟩, h.len, h.val⟩

/-- The same value, told from this world on: the one row that may be written. -/
theorem Tip.base {W : World} {row : Option Nat} {w : World} {v : Value} {n : Nat} {xs : List Value} (h : Tip W row w v n xs) :
    ∃ r, Tip w r w v n xs ∧ ∀ g, r = some g → (row = some g ∨ W.heap.size ≤ g) ∧ g < w.heap.size := by
  rcases h.val with ⟨ao, rfl, h1, h2⟩ | ⟨g, cap, rfl, h1, h2⟩
  · exact ⟨none, ⟨World.grownBy.refl _ _, h.len, .inl ⟨ao, rfl, h1, h2⟩⟩, fun g e => by cases e⟩
  · refine ⟨some g, ⟨World.grownBy.refl _ _, h.len, .inr ⟨g, cap, rfl, h1, .inl rfl⟩⟩, fun g' e => ?_⟩
    cases e
    exact ⟨h2, (h1.lt g rfl).2⟩

theorem Tip.self {r : Option Nat} {w : World} {v : Value} {n : Nat} {xs : List Value} (h : Tip w r w v n xs) (o : Obj) : Tip (w.alloc o) r (w.alloc o) v n xs := by
  refine ⟨World.grownBy.refl _ _, h.len, ?_⟩
  rcases h.val with ⟨ao, rfl, h1, h2⟩ | ⟨g, cap, rfl, h1, h2⟩
  · exact .inl ⟨ao, rfl, h1, fun b hb j u hj => cell_old (h2 b hb j u hj)⟩
  · refine .inr ⟨g, cap, rfl, h1.alloc o, ?_⟩
    have := (h1.lt g rfl).2
    rcases h2 with h2 | h2
    · exact .inl h2
    · omega

/-- What is not the written row stands. -/
theorem cell_grown {w w' : World} {r : Option Nat} (h : w.grownBy w' r) {a : Addr} (hlt : a.block < w.heap.size) (hne : some a.block ≠ r) : w'.cell? a = w.cell? a :=
  World.cell?_of_block (h.block a.block hlt hne)

/-- Two stretches. -/
theorem TipO.join {W : World} {row r : Option Nat} {w w2 : World} {v2 : Value} {n2 : Nat} {xs2 : List Value} (hW : W.grownBy w row) (hr : ∀ g, r = some g → row = some g ∨ W.heap.size ≤ g) (k : TipO w r w2 v2 n2 xs2) : TipO W row w2 v2 n2 xs2 := by
  have hsz := hW.size
  refine ⟨grownBy_then hW k.grown hr, k.len, ?_⟩
  obtain ⟨g, cap, e, h1, h2⟩ := k.val
  refine ⟨g, cap, e, h1, ?_⟩
  rcases h2 with h2 | h2
  · exact hr g h2
  · exact .inr (by omega)

set_option maxRecDepth 100000 in
set_option maxHeartbeats 1600000 in
theorem auv_any (W : World) (row : Option Nat) (x n : Nat) (hx : x < 18446744073709551616) (v : Value) (xs : List Value) (w : World) (ht : Tip W row w v n xs) (hlim : n + 10 ≤ 140737488355328) :
    Calls Ybaf.prog 14 #[v, .int .u64 x] w fun e w' => ∃ v', e = .returned v' ∧ TipO W row w' v' (n + (Lib.uvarint x).length) (xs ++ Lib.byteCells (Lib.uvarint x)) := by
  have hlen := Lib.uvarint_length64 hx
  obtain ⟨i0, hi, hz0, hz1, hz2⟩ := info_parts Ybaf.info5
  have HT : Hid (Tip W row w v (n + ([] : List UInt8).length) (xs ++ Lib.byteCells [])) := by show Tip _ _ _ _ _ _; simpa [Lib.byteCells] using ht
  clear ht
  go_enter Ybaf.func14, Ybaf.ntmps14
  go_wp2
  go_loopw [0, 1] (fun vb vx wr => ∃ (y : Nat) (pre : List UInt8), vx = .int .u64 y ∧ y ≤ x ∧ Hid (Lib.uvarint x = pre ++ Lib.uvarint y) ∧ Hid (Tip W row wr vb (n + pre.length) (xs ++ Lib.byteCells pre))) (fun _ vx _ => (intOf vx).toNat)
  case atStart => exact ⟨x, [], rfl, Nat.le_refl _, rfl, HT⟩
  case round =>
    obtain ⟨y, pre, rfl, hy, hsplit, ht1⟩ := hrel
    clear HT
    have hpl : pre.length + (Lib.uvarint y).length ≤ 10 := by
      have h2 := congrArg List.length hsplit.out
      rw [List.length_append] at h2
      omega
    have hyp := Lib.uvarint_pos y
    by_cases h128 : 128 ≤ y
    · have hor : bits .or .u8 ((y : Int) % 256) 128 = ((y % 128 + 128 : Nat) : Int) := by
        rw [Lib.u8_or128_any _ (by omega) (by omega)]
        omega
      go_wp2_with (at_builtin; refine wpList_tip ht1.out rfl _ _ 51 rfl i0 Ybaf.underlying51 hi hz0 hz1 hz2 (.int .u8 ((y % 128 + 128 : Nat) : Int)) rfl rfl rfl (by omega) ?_)
      intro v' w1 ht2
      have HT2 := hide ht2
      clear ht2
      go_wp2
      go_roundw
      case rel =>
        refine ⟨y / 128, pre ++ [(y % 128 + 128).toUInt8], by go_num, by omega, (show _ = _ by rw [hsplit.out, Lib.uvarint_big h128]; simp), ?_⟩
        show Tip _ _ _ _ _ _
        have ec : ((y % 128 + 128 : Nat) : Int) = (y : Int) % 128 + 128 := by omega
        rw [Lib.byteCells_snoc pre (by omega), List.length_append, List.length_singleton, ← Nat.add_assoc, ec]
        exact HT2.out.tip
      case measure => simp [intOf]; omega
    · have hsm : Hid (Lib.uvarint y = [y.toUInt8]) := Lib.uvarint_small (by omega)
      go_wp2_with (at_builtin; refine wpList_tip ht1.out rfl _ _ 51 rfl i0 Ybaf.underlying51 hi hz0 hz1 hz2 (.int .u8 (y : Int)) rfl rfl rfl (by omega) ?_)
      intro v' w1 ht2
      have HT2 := hide ht2
      clear ht2
      go_wp2
      go_ret
      refine ⟨v', rfl, ?_⟩
      rw [hsplit.out, hsm.out, Lib.byteCells_snoc pre (by omega), List.length_append, List.length_singleton, ← Nat.add_assoc]
      exact HT2.out

/-- 'all - causal', on uint64. -/
def lagN (a c : Nat) : Nat := (a + 18446744073709551616 - c) % 18446744073709551616
theorem lag_wrap (a c : Nat) (ha : a < 18446744073709551616) (hc : c < 18446744073709551616) : IntKind.u64.wrap ((a : Int) - (c : Int)) = (lagN a c : Int) := by
  rw [IntKind.wrap_u64]
  unfold lagN
  omega
theorem byteCells_append (a b : List UInt8) : Lib.byteCells (a ++ b) = Lib.byteCells a ++ Lib.byteCells b := by simp [Lib.byteCells]
def encP (a c : Nat) : List UInt8 := Lib.uvarint a ++ Lib.uvarint (lagN a c)

theorem lag_lt (a c : Nat) : lagN a c < 18446744073709551616 := by unfold lagN; omega

theorem encP_le (a c : Nat) (ha : a < 18446744073709551616) : (encP a c).length ≤ 20 := by
  have h1 := Lib.uvarint_length64 ha
  have h2 := Lib.uvarint_length64 (lag_lt a c)
  unfold encP
  rw [List.length_append]
  omega

theorem tip_cast {W : World} {row : Option Nat} {w : World} {v : Value} {n n' : Nat} {xs xs' : List Value} (h : TipO W row w v n xs) (e1 : n = n') (e2 : xs = xs') : TipO W row w v n' xs' := by subst e1; subst e2; exact h

set_option maxRecDepth 100000 in
set_option maxHeartbeats 800000 in
theorem times_any (W : World) (row : Option Nat) (al ca n : Nat) (ha : al < 18446744073709551616) (hc : ca < 18446744073709551616) (v : Value) (xs : List Value) (w : World) (ht : Tip W row w v n xs) (hlim : n + 20 ≤ 140737488355328) :
    Calls Ybaf.prog 15 #[v, .agg #[.int .u64 al, .int .u64 ca]] w fun e w' => ∃ v', e = .returned v' ∧ TipO W row w' v' (n + (encP al ca).length) (xs ++ Lib.byteCells (encP al ca)) := by
  obtain ⟨r, hb, hr⟩ := ht.base
  have hl1 := Lib.uvarint_length64 ha
  have HT := hide ht
  have HR := hide hr
  have HA := hide (auv_any (w.alloc (.cells #[.int .u64 al, .int .u64 ca] 57)) r al n ha v xs _ (hb.self _) (by omega))
  have hne : some w.heap.size ≠ r := by intro e; have := (hr _ e.symm).2; omega
  have HN := hide hne
  clear ht hb hr hne
  go_enter Ybaf.func15, Ybaf.ntmps15
  go_wp2_with fail
  refine (HA.out).mono ?_
  rintro e w1 ⟨v1, rfl, ht1⟩
  have k0 : w1.cell? ⟨w.heap.size, 0, none⟩ = some (.int .u64 al) := (cell_grown ht1.grown (a := ⟨w.heap.size, 0, none⟩) (by simp) HN.out).trans (by simp)
  have k1 : w1.cell? ⟨w.heap.size, 1, none⟩ = some (.int .u64 ca) := (cell_grown ht1.grown (a := ⟨w.heap.size, 1, none⟩) (by simp) HN.out).trans (by simp)
  have HT1 := hide ht1
  clear ht1 HA
  go_wp2_with fail
  rw [lag_wrap al ca ha hc]
  refine (auv_any _ r (lagN al ca) _ (lag_lt al ca) v1 _ w1 HT1.out.tip (by omega)).mono ?_
  rintro e w2 ⟨v2, rfl, ht2⟩
  have HT2 := hide ht2
  clear ht2 k0 k1
  go_wp2_with fail
  go_ret
  refine ⟨v2, rfl, TipO.join (grownBy_trans HT.out.grown (World.grownBy_alloc w _ row)) (fun g e => (HR.out g e).1) (tip_cast HT2.out ?_ ?_)⟩
  · unfold encP; rw [List.length_append]; omega
  · unfold encP; rw [byteCells_append, List.append_assoc]

end Go.Proofs.YbulkczjkFmt
