/-
  readUvarint, readTimes: walked, on bytes that were written.
-/
import Derived.Test.YbulkczjkFmtCells
import Derived.Test.YbulkczjkFmtShelf
import Derived.Test.YbulkczjkFmtPlain
import Derived.Laws.IdiomStrings
import Derived.Deep.QuietTactic
import Derived.BigQuiet
namespace Go.Proofs.YbulkczjkFmt
open Go.RowKit

/-- The slice value reads as these bytes; its array is below block N. -/
def RestIs (w : World) (N : Nat) (rv : Value) (l : List UInt8) : Prop :=
  ∃ ao c, rv = .slice ao l.length c ∧ l.length ≤ c ∧ c ≤ maxLen ∧
    (l ≠ [] → ∃ bk o, ao = some ⟨bk, o, none⟩ ∧ bk < N ∧ ∀ j (hj : j < l.length), w.cell? ⟨bk, o + j, none⟩ = some (.int .u8 (l[j]).toNat))

theorem RestIs.later {w w' : World} {N B : Nat} {rv : Value} {l : List UInt8} (h : RestIs w N rv l) (hb : Below B w w') (hN : N ≤ B) : RestIs w' N rv l := by
  obtain ⟨ao, c, e, h1, h2, h3⟩ := h
  refine ⟨ao, c, e, h1, h2, fun hl => ?_⟩
  obtain ⟨bk, o, e1, e2, e3⟩ := h3 hl
  exact ⟨bk, o, e1, e2, fun j hj => (hb.cell (p := ⟨bk, o + j, none⟩) (Nat.lt_of_lt_of_le e2 hN)).trans (e3 j hj)⟩

theorem rest_drop {w : World} {N bk o m cap : Nat} {l t : List UInt8} (hlt : bk < N) (ht : l.drop m = t) (hm : m ≤ l.length) (hcap : l.length ≤ cap) (hmax : cap ≤ maxLen)
    (hc : ∀ (j : Nat) (hj : j < l.length), w.cell? ⟨bk, o + j, none⟩ = some (.int .u8 (l[j]).toNat)) :
    RestIs w N (.slice (some ⟨bk, o + m, none⟩) (l.length - m) (cap - m)) t := by
  subst ht
  refine ⟨some ⟨bk, o + m, none⟩, cap - m, by rw [List.length_drop], by rw [List.length_drop]; omega, by omega, fun _ => ⟨bk, o + m, rfl, hlt, fun j hj => ?_⟩⟩
  rw [List.length_drop] at hj
  have := hc (m + j) (by omega)
  rw [List.getElem_drop, Nat.add_assoc]
  exact this

theorem rest_end {w : World} {N m : Nat} {l t : List UInt8} (ao : Option Addr) (ht : l.drop m = t) (he : l.length ≤ m) :
    RestIs w N (.slice ao 0 0) t := by
  subst ht
  have hd : l.drop m = [] := List.drop_eq_nil_of_le (by omega)
  rw [hd]
  exact ⟨ao, 0, rfl, Nat.le_refl _, by unfold maxLen; omega, fun h => absurd rfl h⟩

theorem uv_any (N : Nat) (rv : Value) (l : List UInt8) (w : World) (h : RestIs w N rv l) :
    Calls Ybaf.prog 21 #[rv] w fun e w' => e = .returned (.tuple #[.int .u64 (Lib.uvarintDec l).1, .int .i64 (Lib.uvarintDec l).2]) ∧ w' = w := by
  obtain ⟨ao, c, rfl, h1, _, h3⟩ := h
  by_cases hl : l = []
  · subst hl
    exact Ybaf.binary_Uvarint_empty ao c w
  · obtain ⟨bk, o, rfl, _, hc⟩ := h3 hl
    exact Ybaf.binary_Uvarint bk o l.length c l w rfl hc

set_option maxRecDepth 100000 in
set_option maxHeartbeats 1600000 in
theorem readUv (N x : Nat) (hx : x < 18446744073709551616) (t : List UInt8) (rv : Value) (s : ByteArray) (w : World) (h : RestIs w N rv (Lib.uvarint x ++ t)) :
    Calls Ybaf.prog 16 #[rv, .string s] w fun e w' => ∃ rv', e = .returned (.tuple #[.int .u64 x, rv', .nilIface]) ∧ Below w.heap.size w w' ∧ RestIs w' N rv' t := by
  have huv := uv_any N rv _ w h
  rw [Plain.dec_enc x hx t] at huv
  have HU := hide huv
  clear huv
  have hpos := Lib.uvarint_pos x
  obtain ⟨ao, cap, rfl, hcap, hmax, h3⟩ := h
  obtain ⟨bk, o, rfl, hbk, hcells⟩ := h3 (by intro e; have := congrArg List.length e; rw [List.length_append] at this; simp only [List.length_nil] at this; omega)
  clear h3
  have hdrop : (Lib.uvarint x ++ t).drop (Lib.uvarint x).length = t := by simp
  have hle : (Lib.uvarint x).length ≤ (Lib.uvarint x ++ t).length := by simp
  have HM := hide hmax
  unfold maxLen at hmax
  generalize (Lib.uvarint x).length = m at *
  generalize (Lib.uvarint x ++ t) = l at *
  have HC := hide hcells
  have HD := hide hdrop
  clear hcells hdrop
  have d0 : decide ((m : Int) ≤ 0) = false := by simp; omega
  by_cases hcm : cap = m
  · subst hcm
    go_enter Ybaf.func16, Ybaf.ntmps16
    go_wp2_with fail
    refine (HU.out).mono ?_
    rintro e w' ⟨rfl, hw'⟩
    obtain rfl := hw'.symm
    go_wp2_with fail
    go_quiet (fail)
    go_wp2_with fail
    refine bodyPost_ret (v := .tuple #[.int .u64 x, .slice (some ⟨bk, o, none⟩) 0 0, .nilIface]) (by simp [results, Ybaf.results16, go_sem]) rfl ⟨_, rfl, ?_, ?_⟩
    · exact below_drewN (Below.refl _ _) _
    · exact rest_end _ HD.out hcap
  · have hcm' : ¬ (cap : Int) = (m : Int) := by omega
    go_enter Ybaf.func16, Ybaf.ntmps16
    go_wp2_with fail
    refine (HU.out).mono ?_
    rintro e w' ⟨rfl, hw'⟩
    obtain rfl := hw'.symm
    go_wp2_with fail
    go_quiet (fail)
    go_wp2_with fail
    refine bodyPost_ret (v := .tuple #[.int .u64 x, .slice (some ⟨bk, o + m, none⟩) (l.length - m) (cap - m), .nilIface]) (by simp [results, Ybaf.results16, go_sem]) rfl ⟨_, rfl, ?_, ?_⟩
    · exact below_drewN (Below.refl _ _) _
    · exact rest_drop hbk HD.out hle hcap HM.out HC.out

theorem below_then {a b c : World} (h : Below a.heap.size a b) (k : Below b.heap.size b c) : Below a.heap.size a c := h.trans (k.mono h.size)

set_option maxRecDepth 100000 in
set_option maxHeartbeats 1600000 in
theorem readTm (N al lag : Nat) (ha : al ≤ 4611686018427387904) (hl : lag ≤ al) (t : List UInt8) (rv : Value) (s : ByteArray) (hs : ¬ 9223372036854775807 < s.size + 13) (w : World) (hN : N ≤ w.heap.size) (h : RestIs w N rv (Lib.uvarint al ++ (Lib.uvarint lag ++ t))) :
    Calls Ybaf.prog 18 #[rv, .string s] w fun e w' => ∃ rv', e = .returned (.tuple #[.agg #[.int .u64 al, .int .u64 ((al - lag : Nat) : Int)], rv', .nilIface]) ∧ Below w.heap.size w w' ∧ RestIs w' N rv' t := by
  have HB0 : Hid (Below w.heap.size w (w.alloc (.cells #[.int .u64 0, .int .u64 0] 57))) := (Below.refl _ _).alloc (Nat.le_refl _) _
  have HU := hide (readUv N al (by omega) _ rv s _ (h.later HB0.out hN))
  clear h
  have d1 : decide ((4611686018427387904 : Int) < (al : Int)) = false := by simp; omega
  have d2 : decide ((al : Int) < (lag : Int)) = false := by simp; omega
  go_enter Ybaf.func18, Ybaf.ntmps18
  go_wp2_with fail
  refine (HU.out).mono ?_
  rintro e w1 ⟨rv1, rfl, hb1, hr1⟩
  have HB1 := hide hb1
  have HR1 := hide hr1
  clear hb1 hr1 HU
  go_wp2_with fail
  refine (readUv N lag (by omega) t rv1 _ w1 HR1.out).mono ?_
  rintro e w2 ⟨rv2, rfl, hb2, hr2⟩
  have HB2 := hide (below_then HB1.out hb2)
  have HR2 := hide hr2
  have hsz : w.heap.size < w2.heap.size := by have := HB2.out.size; simp at this; omega
  have hrow : w2.heap[w.heap.size]? = some (.cells #[.int .u64 0, .int .u64 0] 57 (0, 0)) := (HB2.out.block w.heap.size (by simp)).trans (show (w.heap.push _)[w.heap.size]? = _ from Array.getElem?_push_size)
  clear hb2 hr2 HR1 HB1
  have f0 : w2.frozen? ⟨w.heap.size, 0, none⟩ = false := by simp [World.frozen?, hrow]
  have f1 : w2.frozen? ⟨w.heap.size, 1, none⟩ = false := by simp [World.frozen?, hrow]
  have c0 : w2.cell? ⟨w.heap.size, 0, none⟩ = some (.int .u64 0) := by rw [cell_of_row w2 _ 0 _ _ _ hrow]; rfl
  have c1 : w2.cell? ⟨w.heap.size, 1, none⟩ = some (.int .u64 0) := by rw [cell_of_row w2 _ 1 _ _ _ hrow]; rfl
  go_wp2_with fail
  have hr2 : RowS w2 w.heap.size [.int .u64 0, .int .u64 0] := hrow
  have hr3 := hr2.set 0 (.int .u64 al)
  have hr4 := hr3.set 1 (.int .u64 ((al : Int) - (lag : Int)))
  have k0 := hr3.cell 0
  have k1 := hr4.cell 1
  have hz : Below w.heap.size w2 _ := ((Below.refl w.heap.size w2).setCell (p := ⟨w.heap.size, 0, none⟩) (by simp) (.int .u64 al)).setCell (p := ⟨w.heap.size, 1, none⟩) (by simp) (.int .u64 ((al : Int) - (lag : Int)))
  simp only [List.set, List.getElem?_cons_zero, List.getElem?_cons_succ] at k0 k1
  refine bodyPost_ret (v := .tuple #[.agg #[.int .u64 al, .int .u64 ((al : Int) - (lag : Int))], rv2, .nilIface]) (by simp [results, Ybaf.results18, go_sem, k0, k1]) rfl ⟨rv2, ?_, ?_, ?_⟩
  · rw [show ((al - lag : Nat) : Int) = (al : Int) - (lag : Int) by omega]
  · exact (HB0.out.trans (HB2.out.mono (by simp))).trans hz
  · exact HR2.out.later hz hN

end Go.Proofs.YbulkczjkFmt
