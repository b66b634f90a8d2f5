/-
  The round trip, on bytes alone.
-/
import Derived.Test.YbulkczhgDoorAcc
import Derived.Laws.BitsAllLaws
namespace Go.Proofs.YbulkczhgDoor
open Go.RowKit

theorem uintF_enc (x : Nat) (hx : x ≤ 9223372036854775807) (t : List UInt8) (c : Nat) : uintF (Lib.uvarint x ++ t) c = (x, t, c, false) := by
  have h := Plain.dec_enc x (by omega) t
  have hp := Lib.uvarint_pos x
  have hb : badD (Lib.uvarintDec (Lib.uvarint x ++ t)) = false := by
    rw [h]; simp only [badD, Bool.or_eq_false_iff, decide_eq_false_iff_not]; omega
  simp only [uintF, hb, Bool.false_eq_true, if_false]
  rw [h]
  simp

def encL (ms : List Nat) : List UInt8 := ms.flatMap Lib.uvarint

theorem encL_ge (ms : List Nat) : ms.length ≤ (encL ms).length := by
  induction ms with
  | nil => simp
  | cons x ms ih =>
    have := Lib.uvarint_pos x
    simp only [encL, List.flatMap_cons, List.length_append, List.length_cons] at *
    omega

theorem encL_le (ms : List Nat) (h : ∀ x ∈ ms, x ≤ 9223372036854775807) : (encL ms).length ≤ 10 * ms.length := by
  induction ms with
  | nil => simp [encL]
  | cons x ms ih =>
    have h1 := Lib.uvarint_length64 (x := x) (by have := h x (by simp); omega)
    have h2 := ih (fun y hy => h y (by simp [hy]))
    simp only [encL, List.flatMap_cons, List.length_append, List.length_cons] at *
    omega

theorem runF_enc (ms : List Nat) (h : ∀ x ∈ ms, x ≤ 9223372036854775807) (t : List UInt8) (c : Nat) :
    ∀ k, k ≤ ms.length → runF k (encL ms ++ t) c false = (ms.take k, encL (ms.drop k) ++ t, c, false) := by
  intro k
  induction k with
  | zero => intro _; simp [runF]
  | succ k ih =>
    intro hk
    have hd : ms.drop k = ms[k] :: ms.drop (k + 1) := List.drop_eq_getElem_cons (by omega)
    have hx := h ms[k] (List.getElem_mem _)
    have hu := uintF_enc ms[k] hx (encL (ms.drop (k + 1)) ++ t) c
    have hs : encL (ms.drop k) ++ t = Lib.uvarint ms[k] ++ (encL (ms.drop (k + 1)) ++ t) := by
      rw [hd]; simp only [encL, List.flatMap_cons, List.append_assoc]
    simp only [runF, ih (by omega)]
    rw [hs, hu]
    simp [List.take_append_getElem]

theorem accF_enc (ms : List Nat) (h : ∀ x ∈ ms, x ≤ 9223372036854775807) (hn : ms.length ≤ 9223372036854775807) (t : List UInt8) :
    accF (Lib.uvarint ms.length ++ (encL ms ++ t)) 0 = (ms, t, 0, false) := by
  have hu := uintF_enc ms.length hn (encL ms ++ t) 0
  have hg := encL_ge ms
  have hc : countF (Lib.uvarint ms.length ++ (encL ms ++ t)) 0 = (ms.length, encL ms ++ t, 0, false) := by
    unfold countF
    rw [hu]
    rw [if_neg (by simp; omega)]
  unfold accF
  rw [hc]
  simp only []
  rw [runF_enc ms h t 0 ms.length (Nat.le_refl _)]
  simp [encL]

/-- 'v & MaxInt64'. -/
def m63 (v : Int) : Nat := v.toNat % 9223372036854775808

theorem m63_le (v : Int) : m63 v ≤ 9223372036854775807 := by unfold m63; omega

theorem and63 (v : Int) (h0 : 0 ≤ v) (h1 : v < 18446744073709551616) : bits .and .u64 v 9223372036854775807 = (m63 v : Int) := by
  obtain ⟨n, rfl⟩ := Int.eq_ofNat_of_zero_le h0
  have hn : n < 18446744073709551616 := by omega
  have h := (bits_nat .u64 64 (by decide) wraps_u64 n 9223372036854775807 (by simpa using hn) (by decide)).1
  have e : ((9223372036854775807 : Nat) : Int) = 9223372036854775807 := rfl
  rw [e] at h
  rw [h, nat_mask63]
  simp [m63]

end Go.Proofs.YbulkczhgDoor
