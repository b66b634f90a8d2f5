/-
  appendStamp: walked.
-/
import Derived.Test.YbulkczjkFmtUv
namespace Go.Proofs.YbulkczjkFmt
open Go.RowKit

/-- A slice of pairs of uint64. -/
structure Pairs (w : World) (sa : Option Addr) (m : Nat) (al ca : Nat → Nat) : Prop where
  at_ : 0 < m → ∃ b o, sa = some ⟨b, o, none⟩ ∧ b < w.heap.size ∧ ∀ i, i < m → w.cell? ⟨b, o + i * 2, none⟩ = some (.int .u64 (al i)) ∧ w.cell? ⟨b, o + i * 2 + 1, none⟩ = some (.int .u64 (ca i))
  lt : ∀ i, i < m → al i < 18446744073709551616 ∧ ca i < 18446744073709551616

theorem Pairs.grown {w w' : World} {sa : Option Addr} {m : Nat} {al ca : Nat → Nat} (h : Pairs w sa m al ca) (hg : w.grownBy w' none) : Pairs w' sa m al ca := by
  refine ⟨fun h0 => ?_, h.lt⟩
  obtain ⟨b, o, e, hb, hc⟩ := h.at_ h0
  exact ⟨b, o, e, Nat.lt_of_lt_of_le hb hg.size, fun i hi => ⟨(cell_grown hg (a := ⟨b, _, none⟩) hb (by simp)).trans (hc i hi).1, (cell_grown hg (a := ⟨b, _, none⟩) hb (by simp)).trans (hc i hi).2⟩⟩

/-- What is written behind k pairs. -/
def encS (m : Nat) (al ca : Nat → Nat) (k : Nat) : List UInt8 := Lib.uvarint m ++ (List.range k).flatMap fun i => encP (al i) (ca i)

theorem encS_succ (m : Nat) (al ca : Nat → Nat) (k : Nat) : encS m al ca (k + 1) = encS m al ca k ++ encP (al k) (ca k) := by
  simp [encS, List.range_succ]

theorem encS_le (m : Nat) (al ca : Nat → Nat) (hm : m ≤ 1024) (k : Nat) (hk : k ≤ m) (hl : ∀ i, i < m → al i < 18446744073709551616 ∧ ca i < 18446744073709551616) : (encS m al ca k).length ≤ 10 + 20 * k := by
  induction k with
  | zero => have := Lib.uvarint_length64 (x := m) (by omega); simpa [encS] using this
  | succ k ih =>
    have h1 := ih (by omega)
    have h2 := encP_le (al k) (ca k) (hl k (by omega)).1
    rw [encS_succ, List.length_append]
    omega

set_option maxRecDepth 100000 in
set_option maxHeartbeats 1600000 in
theorem stamp_any (sa : Option Addr) (m sc n : Nat) (al ca : Nat → Nat) (hm : m ≤ 1024) (v : Value) (xs : List Value) (w : World) (ht : Tip w none w v n xs) (hp : Pairs w sa m al ca) (hn : n ≤ 100000) :
    Calls Ybaf.prog 9 #[v, .slice sa m sc] w fun e w' => ∃ v', e = .returned v' ∧ TipO w none w' v' (n + (encS m al ca m).length) (xs ++ Lib.byteCells (encS m al ca m)) := by
  have HP := hide hp
  have HA := hide (auv_any w none m n (by omega) v xs w ht (by omega))
  have hlen : (Lib.uvarint m).length ≤ 10 := Lib.uvarint_length64 (by omega)
  clear ht hp
  go_enter Ybaf.func9, Ybaf.ntmps9
  go_wp2_with fail
  refine (HA.out).mono ?_
  rintro e w1 ⟨v1, rfl, ht1⟩
  have HT1 : Hid (TipO w none w1 v1 (n + (encS m al ca 0).length) (xs ++ Lib.byteCells (encS m al ca 0))) := by show TipO _ _ _ _ _ _; simpa [encS] using ht1
  clear ht1 HA
  go_wp2_with fail
  go_loopw [0, 14] (fun b i wr => ∃ k : Nat, k ≤ m ∧ i = .int .i64 k ∧ Hid (TipO w none wr b (n + (encS m al ca k).length) (xs ++ Lib.byteCells (encS m al ca k)))) (fun _ i _ => m - (intOf i).toNat)
  case atStart => exact ⟨0, Nat.zero_le _, rfl, HT1⟩
  case round =>
    obtain ⟨k, hk, rfl, ht⟩ := hrel
    clear HT1
    by_cases hlt : k < m
    · obtain ⟨b, o, rfl, hbw, hcs⟩ := (HP.out.grown ht.out.grown).at_ (by omega)
      obtain ⟨hc0, hc1⟩ := hcs k hlt
      obtain ⟨hla, hlc⟩ := HP.out.lt k hlt
      have hel := encS_le m al ca hm k hk HP.out.lt
      have HTM := hide (times_any w none (al k) (ca k) _ hla hlc _ _ (wr.alloc (.cells #[.int .u64 (al k), .int .u64 (ca k)] 57)) (ht.out.tip.alloc _) (by omega))
      clear hcs
      go_wp2_with fail
      refine (HTM.out).mono ?_
      rintro e w2 ⟨v2, rfl, ht2⟩
      have HT2 := hide ht2
      clear ht2 HTM hc0 hc1
      go_wp2_with fail
      go_roundw
      case rel =>
        refine ⟨k + 1, by omega, by go_num, ?_⟩
        refine tip_cast HT2.out ?_ ?_
        · rw [encS_succ, List.length_append]; omega
        · rw [encS_succ, byteCells_append, List.append_assoc]
      case measure => simp [intOf]; omega
    · obtain rfl : m = k := by omega
      go_wp2_with fail
      go_ret
      exact ⟨_, rfl, ht.out⟩

end Go.Proofs.YbulkczjkFmt
