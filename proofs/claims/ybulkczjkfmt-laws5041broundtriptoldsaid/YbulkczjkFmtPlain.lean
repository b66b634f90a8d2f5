/-
  What is written as a varint is what is read.
-/
import Derived.Lib.Varint
import Derived.Lib.VarintDec
namespace Go.Proofs.YbulkczjkFmt.Plain
open Go

/-- What was written is what is read: from i bytes on. -/
theorem from_enc : ∀ (n x i acc : Nat) (t : List UInt8), x ≤ n → i ≤ 9 → x < 2 ^ (64 - 7 * i) →
    Lib.uvarintFrom i acc (Lib.uvarint x ++ t) = (acc + x * 2 ^ (7 * i), ((i + (Lib.uvarint x).length : Nat) : Int)) := by
  intro n
  induction n with
  | zero =>
    intro x i acc t hn hi hx
    obtain rfl : x = 0 := by omega
    rw [Lib.uvarint_small (by omega)]
    have h10 : ¬ i = 10 := by omega
    simp [Lib.uvarintFrom, h10]
  | succ n ih =>
    intro x i acc t hn hi hx
    have h10 : ¬ i = 10 := by omega
    by_cases hs : x < 128
    · rw [Lib.uvarint_small hs]
      have hb : (x.toUInt8).toNat = x := by
        simp; omega
      have h9 : ¬ (i = 9 ∧ 1 < x) := by
        rintro ⟨rfl, h⟩
        have : (2 : Nat) ^ (64 - 7 * 9) = 2 := by decide
        omega
      simp only [List.cons_append, List.nil_append, Lib.uvarintFrom]
      rw [hb, if_neg h10, if_pos hs, if_neg h9]
      simp
    · have hi8 : i ≤ 8 := by
        by_cases h : i = 9
        · subst h
          have : (2 : Nat) ^ (64 - 7 * 9) = 2 := by decide
          omega
        · omega
      rw [Lib.uvarint_big (by omega)]
      have hb : ((x % 128 + 128).toUInt8).toNat = x % 128 + 128 := by
        simp; omega
      have hd : x / 128 < 2 ^ (64 - 7 * (i + 1)) := by
        have e : 2 ^ (64 - 7 * i) = 128 * 2 ^ (64 - 7 * (i + 1)) := by
          rw [show 64 - 7 * i = (64 - 7 * (i + 1)) + 7 by omega, Nat.pow_add]
          omega
        rw [e] at hx
        exact Nat.div_lt_of_lt_mul hx
      simp only [List.cons_append, Lib.uvarintFrom]
      rw [hb, if_neg h10, if_neg (by omega), ih (x / 128) (i + 1) _ t (by omega) (by omega) hd]
      have e2 : 2 ^ (7 * (i + 1)) = 128 * 2 ^ (7 * i) := by
        rw [show 7 * (i + 1) = 7 * i + 7 by omega, Nat.pow_add]
        omega
      have em : (x % 128 + 128) % 128 = x % 128 := by omega
      rw [e2, em]
      have hx2 : x = x % 128 + 128 * (x / 128) := by omega
      have hv : acc + x % 128 * 2 ^ (7 * i) + x / 128 * (128 * 2 ^ (7 * i)) = acc + x * 2 ^ (7 * i) := by
        have : x * 2 ^ (7 * i) = x % 128 * 2 ^ (7 * i) + x / 128 * (128 * 2 ^ (7 * i)) := by
          conv => lhs; rw [hx2]
          rw [Nat.add_mul]
          congr 1
          rw [Nat.mul_comm 128, Nat.mul_assoc]
        omega
      rw [hv]
      simp only [List.length_cons]
      congr 1
      omega

theorem dec_enc (x : Nat) (hx : x < 18446744073709551616) (t : List UInt8) :
    Lib.uvarintDec (Lib.uvarint x ++ t) = (x, ((Lib.uvarint x).length : Int)) := by
  have h := from_enc x x 0 0 t (Nat.le_refl _) (by omega) (by simpa using hx)
  simpa [Lib.uvarintDec] using h

/-- The count that is read: at most what there is. -/
theorem from_le : ∀ (l : List UInt8) (i acc : Nat), (Lib.uvarintFrom i acc l).2 ≤ ((i + l.length : Nat) : Int)
  | [], i, acc => by simp [Lib.uvarintFrom]
  | b :: r, i, acc => by
    have := from_le r (i + 1) (acc + b.toNat % 128 * 2 ^ (7 * i))
    simp only [Lib.uvarintFrom, List.length_cons]
    split
    · simp; omega
    · split
      · split <;> (simp; omega)
      · omega

theorem dec_le (l : List UInt8) : (Lib.uvarintDec l).2 ≤ (l.length : Int) := by
  have := from_le l 0 0
  simpa [Lib.uvarintDec] using this

theorem dec_nil : Lib.uvarintDec [] = (0, 0) := rfl

end Go.Proofs.YbulkczjkFmt.Plain
