/-
  (*body).uint, (*body).count: walked.
-/
import Derived.Test.YbulkczhgDoorFail
namespace Go.Proofs.YbulkczhgDoor
open Go.RowKit

theorem hide {p : Prop} (h : p) : Hid p := h

/-- The slice value reads as these bytes; its array is not block g. -/
def RestIs (w : World) (g N : Nat) (rv : Value) (l : List UInt8) : Prop :=
  ∃ ao c, rv = .slice ao l.length c ∧ l.length ≤ c ∧ c ≤ maxLen ∧
    (l ≠ [] → ∃ bk o, ao = some ⟨bk, o, none⟩ ∧ bk ≠ g ∧ bk < N ∧ ∀ j (hj : j < l.length), w.cell? ⟨bk, o + j, none⟩ = some (.int .u8 (l[j]).toNat))

theorem RestIs.nil (w : World) (g N : Nat) : RestIs w g N (.slice none 0 0) [] :=
  ⟨none, 0, rfl, Nat.le_refl _, Nat.zero_le _, fun h => absurd rfl h⟩

theorem RestIs.grown {w w' : World} {g N : Nat} {rv : Value} {l : List UInt8} (h : RestIs w g N rv l) (hg : w.grownBy w' (some g)) : RestIs w' g N rv l := by
  obtain ⟨ao, c, e, h1, h2, h3⟩ := h
  refine ⟨ao, c, e, h1, h2, fun hl => ?_⟩
  obtain ⟨bk, o, e1, e2, e4, e3⟩ := h3 hl
  exact ⟨bk, o, e1, e2, e4, fun j hj => hg.cell (e3 j hj) (by simpa using e2)⟩

theorem Vars.grown {w w' : World} {a0 a1 : Addr} {g : Nat} (h : Vars w a0 a1) (hg : w.grownBy w' (some g)) (h1 : 1 < g) : Vars w' a0 a1 :=
  ⟨hg.cell h.v0 (by simp; omega), hg.cell h.v1 (by simp; omega)⟩

/-- Body as it stands: its block, what its rest reads as, the variables. -/
structure Body (w : World) (g N : Nat) (kd : Int) (a0 a1 : Addr) (l : List UInt8) (c : Nat) (nl : Bool) : Prop where
  ex : ∃ rv, w.heap[g]? = some (bodyO kd rv (errV a0 a1 c)) ∧ RestIs w g N rv l ∧ (nl = true → rv = .slice none 0 0)
  vars : Vars w a0 a1
  lt : 1 < g
  le : c ≤ 2

theorem failC_le (c : Nat) (sh : Bool) (h : c ≤ 2) : failC c sh ≤ 2 := by
  unfold failC; split <;> (try split) <;> omega

/-- fail, over Body. -/
theorem fail_body (g N : Nat) (kd : Int) (a0 a1 : Addr) (l : List UInt8) (c : Nat) (nl sh : Bool) (w : World) (hb : Body w g N kd a0 a1 l c nl) :
    Calls Ybad.prog 19 #[.pointer (some ⟨g, 0, none⟩), .bool sh] w fun e w' => e = .returned (.tuple #[]) ∧ Body w' g N kd a0 a1 [] (failC c sh) true ∧ w.grownBy w' (some g) := by
  obtain ⟨⟨rv, h1, _, _⟩, hv, hlt, hle⟩ := hb
  refine (fail_any g kd rv c sh a0 a1 w hv hlt h1 hle).mono ?_
  rintro e w' ⟨rfl, hh, hg⟩
  exact ⟨rfl, ⟨⟨_, hh, RestIs.nil _ _ _, fun _ => rfl⟩, hv.grown hg hlt, hlt, failC_le c sh hle⟩, hg⟩

def badD (d : Nat × Int) : Bool := decide (d.2 ≤ 0) || decide (9223372036854775807 < d.1)

/-- uint on the bytes, the error's number, and whether rest is nil for sure. -/
def uintF (l : List UInt8) (c : Nat) : Nat × List UInt8 × Nat × Bool :=
  if badD (Lib.uvarintDec l) then (0, [], failC c ((Lib.uvarintDec l).2 == 0), true)
  else ((Lib.uvarintDec l).1, l.drop (Lib.uvarintDec l).2.toNat, c, false)

theorem uv_any (g N : Nat) (rv : Value) (l : List UInt8) (w : World) (h : RestIs w g N rv l) :
    Calls Ybad.prog 16 #[rv] w fun e w' => e = .returned (.tuple #[.int .u64 (Lib.uvarintDec l).1, .int .i64 (Lib.uvarintDec l).2]) ∧ w' = w := by
  obtain ⟨ao, c, rfl, h1, _, h3⟩ := h
  by_cases hl : l = []
  · subst hl
    exact Ybad.binary_Uvarint_empty ao c w
  · obtain ⟨bk, o, rfl, _, _, hc⟩ := h3 hl
    exact Ybad.binary_Uvarint bk o l.length c l w rfl hc

set_option maxHeartbeats 400000 in
theorem uint_bad (g N : Nat) (kd : Int) (a0 a1 : Addr) (l : List UInt8) (c : Nat) (nl : Bool) (w : World) (hb : Body w g N kd a0 a1 l c nl) (hbad : badD (Lib.uvarintDec l) = true) :
    Calls Ybad.prog 15 #[.pointer (some ⟨g, 0, none⟩)] w fun e w' => e = .returned (.int .i64 0) ∧ Body w' g N kd a0 a1 [] (failC c ((Lib.uvarintDec l).2 == 0)) true ∧ w.grownBy w' (some g) := by
  have HB : Hid (Body w g N kd a0 a1 l c nl) := hb
  obtain ⟨⟨rv, h1, h2, _⟩, hv, hlt, hle⟩ := hb
  obtain ⟨c0, c1, c2, f1, f2⟩ := body_cells h1
  have huv := uv_any g N rv l w h2
  have hvd : (Lib.uvarintDec l).1 < 18446744073709551616 := Lib.uvarintDec_lt l
  have hbad' : (Lib.uvarintDec l).2 ≤ 0 ∨ 9223372036854775807 < (Lib.uvarintDec l).1 := by
    simpa only [badD, Bool.or_eq_true, decide_eq_true_eq] using hbad
  generalize (Lib.uvarintDec l).1 = v at *
  generalize (Lib.uvarintDec l).2 = k at *
  clear hbad h1 h2 hv hlt hle f1 f2 c0 c2
  have HU := hide huv
  clear huv
  by_cases hk : k ≤ 0
  · go_enter Ybad.func15, Ybad.ntmps15
    go_wp2_with (first | (go_at_call 16; refine (HU.out).mono ?_; rintro e w' ⟨rfl, rfl⟩) | (go_at_call 19; refine (fail_body g N kd a0 a1 l c nl _ _ HB.out).mono ?_; rintro e w' ⟨rfl, hbb, hgg⟩))
    go_ret
    exact ⟨rfl, hbb, hgg⟩
  · have hv : (9223372036854775807 : Int) < (v : Int) := by omega
    clear hbad'
    go_enter Ybad.func15, Ybad.ntmps15
    go_wp2_with (first | (go_at_call 16; refine (HU.out).mono ?_; rintro e w' ⟨rfl, rfl⟩) | (go_at_call 19; refine (fail_body g N kd a0 a1 l c nl _ _ HB.out).mono ?_; rintro e w' ⟨rfl, hbb, hgg⟩))
    go_ret
    exact ⟨rfl, hbb, hgg⟩

theorem body_set {w : World} {g N : Nat} {kd : Int} {a0 a1 : Addr} {c : Nat} {rv rv' : Value} {l' : List UInt8}
    (h1 : w.heap[g]? = some (bodyO kd rv (errV a0 a1 c))) (hv : Vars w a0 a1) (hlt : 1 < g) (hle : c ≤ 2) (hr : RestIs w g N rv' l') :
    Body (w.setCell ⟨g, 1, none⟩ rv') g N kd a0 a1 l' c false ∧ w.grownBy (w.setCell ⟨g, 1, none⟩ rv') (some g) := by
  have hg := grownBy_set w g 1 rv'
  exact ⟨⟨⟨rv', heap_set h1 1 _, hr.grown hg, fun h => by cases h⟩, hv.grown hg hlt, hlt, hle⟩, hg⟩

theorem rest_drop {w : World} {g N bk o m cap : Nat} {l : List UInt8} (hbk : bk ≠ g) (hbN : bk < N) (hm : m ≤ l.length) (hcap : l.length ≤ cap) (_hmax : cap ≤ maxLen)
    (hc : ∀ (j : Nat) (hj : j < l.length), w.cell? ⟨bk, o + j, none⟩ = some (.int .u8 (l[j]).toNat)) :
    RestIs w g N (.slice (some ⟨bk, o + m, none⟩) (l.length - m) (cap - m)) (l.drop m) := by
  refine ⟨some ⟨bk, o + m, none⟩, cap - m, by rw [List.length_drop], by rw [List.length_drop]; omega, by omega, fun _ => ⟨bk, o + m, rfl, hbk, hbN, fun j hj => ?_⟩⟩
  rw [List.length_drop] at hj
  have := hc (m + j) (by omega)
  rw [List.getElem_drop, Nat.add_assoc]
  exact this

theorem rest_end {w : World} {g N m cap : Nat} {l : List UInt8} (ao : Option Addr) (_hm : m ≤ l.length) (hcap : l.length ≤ cap) (_hmax : cap ≤ maxLen) (he : cap = m) :
    RestIs w g N (.slice ao (l.length - m) 0) (l.drop m) := by
  have hd : l.drop m = [] := List.drop_eq_nil_of_le (by omega)
  exact ⟨ao, 0, by rw [List.length_drop], by rw [List.length_drop]; omega, by unfold maxLen; omega, fun h => absurd hd h⟩

set_option maxHeartbeats 400000 in
theorem uint_good (g N : Nat) (kd : Int) (a0 a1 : Addr) (l : List UInt8) (c : Nat) (nl : Bool) (w : World) (hb : Body w g N kd a0 a1 l c nl) (hbad : badD (Lib.uvarintDec l) = false) :
    Calls Ybad.prog 15 #[.pointer (some ⟨g, 0, none⟩)] w fun e w' => e = .returned (.int .i64 (Lib.uvarintDec l).1) ∧ Body w' g N kd a0 a1 (l.drop (Lib.uvarintDec l).2.toNat) c false ∧ w.grownBy w' (some g) := by
  obtain ⟨⟨rv, h1, h2, _⟩, hv, hlt, hle⟩ := hb
  obtain ⟨c0, c1, c2, f1, f2⟩ := body_cells h1
  have huv := uv_any g N rv l w h2
  have hvd : (Lib.uvarintDec l).1 < 18446744073709551616 := Lib.uvarintDec_lt l
  have hkl := Plain.dec_le l
  have hgood : ¬ (Lib.uvarintDec l).2 ≤ 0 ∧ ¬ 9223372036854775807 < (Lib.uvarintDec l).1 := by
    simpa only [badD, Bool.or_eq_false_iff, decide_eq_false_iff_not] using hbad
  obtain ⟨hk, hv2⟩ := hgood
  have hne : l ≠ [] := by
    rintro rfl
    simp [Plain.dec_nil] at hk
  obtain ⟨ao, cap, rfl, hcap, hmax, h3⟩ := h2
  obtain ⟨bk, o, rfl, hbk, hbN, hcells⟩ := h3 hne
  have hlen : 0 < l.length := List.length_pos_iff.2 hne
  generalize hd1 : (Lib.uvarintDec l).1 = v at *
  generalize hd2 : (Lib.uvarintDec l).2 = k at *
  obtain ⟨m, rfl⟩ := Int.eq_ofNat_of_zero_le (show 0 ≤ k by omega)
  clear hbad hd1 hd2 
  have HU := hide huv
  have H1 := hide h1
  have HC := hide hcells
  have HV := hide hv
  have HM := hide hmax
  clear huv h1 h3 hcells hv hne
  unfold maxLen at hmax
  have hm : (m : Int) ≤ (l.length : Int) := hkl
  have hm0 : ¬ (m : Int) ≤ 0 := hk
  have hv3 : ¬ (9223372036854775807 : Int) < (v : Int) := by omega
  go_enter Ybad.func15, Ybad.ntmps15
  go_wp2_with (first | (go_at_call 16; refine (HU.out).mono ?_; rintro e w' ⟨rfl, rfl⟩))
  · go_ret
    exact ⟨rfl, body_set H1.out HV.out hlt hle (rest_end (m := m) (l := l) _ (by omega) hcap HM.out (by assumption))⟩
  · go_ret
    exact ⟨rfl, body_set H1.out HV.out hlt hle (rest_drop hbk hbN (by omega) hcap HM.out HC.out)⟩

/-- uint: one contract. -/
theorem uint_any (g N : Nat) (kd : Int) (a0 a1 : Addr) (l : List UInt8) (c : Nat) (nl : Bool) (w : World) (hb : Body w g N kd a0 a1 l c nl) :
    Calls Ybad.prog 15 #[.pointer (some ⟨g, 0, none⟩)] w fun e w' => e = .returned (.int .i64 (uintF l c).1) ∧ Body w' g N kd a0 a1 (uintF l c).2.1 (uintF l c).2.2.1 (uintF l c).2.2.2 ∧ w.grownBy w' (some g) := by
  cases hd : badD (Lib.uvarintDec l) with
  | true =>
    have e : uintF l c = (0, [], failC c ((Lib.uvarintDec l).2 == 0), true) := by simp [uintF, hd]
    rw [e]
    exact uint_bad g N kd a0 a1 l c nl w hb hd
  | false =>
    have e : uintF l c = ((Lib.uvarintDec l).1, l.drop (Lib.uvarintDec l).2.toNat, c, false) := by simp [uintF, hd]
    rw [e]
    exact uint_good g N kd a0 a1 l c nl w hb hd

/-- What uint returns is an int64; what it leaves is no longer. -/
theorem uintF_le (l : List UInt8) (c : Nat) : (uintF l c).1 ≤ 9223372036854775807 ∧ (uintF l c).2.1.length ≤ l.length := by
  cases hd : badD (Lib.uvarintDec l) with
  | true => simp [uintF, hd]
  | false =>
    simp only [badD, Bool.or_eq_false_iff, decide_eq_false_iff_not] at hd
    have h1 : badD (Lib.uvarintDec l) = false := by simp [badD, hd]
    simp [uintF, h1]
    omega

/-- count on the bytes. -/
def countF (l : List UInt8) (c : Nat) : Nat × List UInt8 × Nat × Bool :=
  if (uintF l c).2.1.length < (uintF l c).1 then (0, [], failC (uintF l c).2.2.1 true, true) else uintF l c

set_option maxHeartbeats 400000 in
theorem count_any (g N : Nat) (kd : Int) (a0 a1 : Addr) (l : List UInt8) (c : Nat) (nl : Bool) (w : World) (hb : Body w g N kd a0 a1 l c nl) (_hl : l.length ≤ maxLen) :
    Calls Ybad.prog 14 #[.pointer (some ⟨g, 0, none⟩)] w fun e w' => e = .returned (.int .i64 (countF l c).1) ∧ Body w' g N kd a0 a1 (countF l c).2.1 (countF l c).2.2.1 (countF l c).2.2.2 ∧ w.grownBy w' (some g) := by
  have HU := hide (uint_any g N kd a0 a1 l c nl w hb)
  have hle := uintF_le l c
  by_cases hlt : (uintF l c).2.1.length < (uintF l c).1
  · have e : countF l c = (0, [], failC (uintF l c).2.2.1 true, true) := by simp [countF, hlt]
    rw [e]
    clear e hb
    unfold maxLen at _hl
    generalize (uintF l c).1 = v at *
    generalize (uintF l c).2.1 = l' at *
    generalize (uintF l c).2.2.1 = c' at *
    generalize (uintF l c).2.2.2 = nl' at *
    have hvi : (l'.length : Int) < (v : Int) := by omega
    go_enter Ybad.func14, Ybad.ntmps14
    go_wp2_with (first | (go_at_call 15; refine (HU.out).mono ?_; rintro e w1 ⟨rfl, hb1, hg1⟩; have HB := hide hb1; obtain ⟨⟨rv, h1, h2, _⟩, _, _, _⟩ := hb1; obtain ⟨_, k1, _, _, _⟩ := body_cells h1; obtain ⟨ao, cap, rfl, hc1, hc2, _⟩ := h2; clear h1) | (go_at_call 19; refine (fail_body g N kd a0 a1 l' c' nl' _ _ HB.out).mono ?_; rintro e w2 ⟨rfl, hb2, hg2⟩))
    go_ret
    exact ⟨rfl, hb2, grownBy_trans hg1 hg2⟩
  · have e : countF l c = uintF l c := by simp [countF, hlt]
    rw [e]
    clear e hb
    unfold maxLen at _hl
    generalize (uintF l c).1 = v at *
    generalize (uintF l c).2.1 = l' at *
    generalize (uintF l c).2.2.1 = c' at *
    generalize (uintF l c).2.2.2 = nl' at *
    have hvi : ¬ (l'.length : Int) < (v : Int) := by omega
    go_enter Ybad.func14, Ybad.ntmps14
    go_wp2_with (first | (go_at_call 15; refine (HU.out).mono ?_; rintro e w1 ⟨rfl, hb1, hg1⟩; have HB := hide hb1; obtain ⟨⟨rv, h1, h2, _⟩, _, _, _⟩ := hb1; obtain ⟨_, k1, _, _, _⟩ := body_cells h1; obtain ⟨ao, cap, rfl, hc1, hc2, _⟩ := h2; clear h1))
    go_ret
    exact ⟨rfl, HB.out, hg1⟩

end Go.Proofs.YbulkczhgDoor
