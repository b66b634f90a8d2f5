/-
  zzs5038aok, LawS5038AModel: walked.
-/
import Derived.Test.YbulkczhuFmtName
namespace Go.Proofs.YbulkczhuFmt
open Go.RowKit Go.Extern.Stop Go.Stop Go.Extern

theorem ret_bool {a b : Bool} (h : a = b) : Ending.returned (.bool a) = .returned (.bool b) := by rw [h]

set_option maxHeartbeats 800000 in
theorem ok_any (c : UInt8) (w : World) : Calls Ybaf.prog 5 #[.int .u8 c.toNat] w fun e w' => e = .returned (.bool (okB c)) ∧ w' = w := by
  have hc := c.toNat_lt
  generalize hb : okB c = b
  have HB := hide hb
  clear hb
  go_enter Ybaf.func5, Ybaf.ntmps5
  go_wp2
  all_goals
    go_ret
    refine ⟨ret_bool ?_, rfl⟩
    rw [← HB.out, Bool.eq_iff_iff]
    simp only [okB, Bool.or_eq_true, Bool.and_eq_true, decide_eq_true_eq]
    clear HB
    try simp only [beq_iff_eq, beq_eq_false_iff_ne, ne_eq] at *
    simp only [Bool.false_eq_true, false_iff, true_iff]
    omega

set_option maxRecDepth 100000 in
set_option maxHeartbeats 1600000 in
theorem model_any (F : Interp) (a : Addr) (s0 s : ByteArray) (w : World) (hF : F.answers w.tape) (hS : Sent w a s0) (hsz : s.size ≤ 1024) :
    Calls Ybaf.prog 3 #[.string s] w fun e w' => e = .returned (.bool true) ∧ Below w.heap.size w w' := by
  have HC := hide (check_any F a s0 s w hF hS hsz)
  have HOK := hide (fun (c : UInt8) => ok_any c w)
  clear hF hS
  obtain ⟨b0, hb0⟩ : ∃ b0, headB s = b0 := ⟨_, rfl⟩
  have hcases : (b0 = true ∧ 1 ≤ s.size ∧ s.size ≤ 63 ∧ (s.toList == [46]) = false ∧ (s.toList == [46, 46]) = false) ∨ (b0 = false ∧ ¬ 1 ≤ s.size) ∨ (b0 = false ∧ 1 ≤ s.size ∧ ¬ s.size ≤ 63) ∨
      (b0 = false ∧ 1 ≤ s.size ∧ s.size ≤ 63 ∧ (s.toList == [46]) = true) ∨ (b0 = false ∧ 1 ≤ s.size ∧ s.size ≤ 63 ∧ (s.toList == [46]) = false ∧ (s.toList == [46, 46]) = true) := by
    subst hb0
    by_cases h1 : 1 ≤ s.size
    · by_cases h2 : s.size ≤ 63
      · cases h3 : (s.toList == [46])
        · cases h4 : (s.toList == [46, 46])
          · exact .inl ⟨by simp [headB, h1, h2, h3, h4], h1, h2, rfl, rfl⟩
          · exact .inr (.inr (.inr (.inr ⟨by simp [headB, h4], h1, h2, rfl, rfl⟩)))
        · exact .inr (.inr (.inr (.inl ⟨by simp [headB, h3], h1, h2, rfl⟩)))
      · exact .inr (.inr (.inl ⟨by simp [headB, h2], h1, h2⟩))
    · exact .inr (.inl ⟨by simp [headB, h1], h1⟩)
  have HH := hide hb0
  clear hb0
  rcases hcases with ⟨rfl, h1, h2, h3, h4⟩ | ⟨rfl, h1⟩ | ⟨rfl, h1, h2⟩ | ⟨rfl, h1, h2, h3⟩ | ⟨rfl, h1, h2, h3, h4⟩
  all_goals
    go_enter Ybaf.func3, Ybaf.ntmps3
    go_wp2_with fail
    go_loop [3, 4] (fun o i => ∃ k : Nat, k ≤ s.size ∧ i = .int .i64 k ∧ ∃ b, Hid (b = (headB s && allB s k)) ∧ o = .bool b) (fun _ i => s.size - (intOf i).toNat)
    case atStart => exact ⟨0, Nat.zero_le _, rfl, _, (show _ = _ by rw [HH.out]; rfl), rfl⟩
    case round =>
      obtain ⟨k, hk, rfl, b, hb, rfl⟩ := hrel
      by_cases hlt : k < s.size
      · have hstep : Hid (allB s (k + 1) = (allB s k && okB s[k])) := allB_succ s k hlt
        cases ho : okB s[k]
        · have HK := HOK.out s[k]
          rw [ho] at HK hstep
          have HKK := hide HK
          clear HK ho
          go_wp2_with (go_at_call 5; refine (HKK.out).mono ?_; rintro e w' ⟨rfl, hw'⟩; obtain rfl := hw'.symm)
          go_round
          case rel => exact ⟨k + 1, by omega, by go_num, _, (show _ = _ by rw [hstep.out]; simp), rfl⟩
          case measure => simp [intOf]; omega
        · have HK := HOK.out s[k]
          rw [ho] at HK hstep
          have HKK := hide HK
          clear HK ho
          go_wp2_with (go_at_call 5; refine (HKK.out).mono ?_; rintro e w' ⟨rfl, hw'⟩; obtain rfl := hw'.symm)
          go_round
          case rel => exact ⟨k + 1, by omega, by go_num, _, (show _ = _ by rw [hstep.out, Bool.and_true]; exact hb.out), rfl⟩
          case measure => simp [intOf]; omega
      · obtain rfl : s.size = k := by omega
        obtain rfl : b = nameB s := hb.out
        go_wp2_with (go_at_call 6; refine (HC.out).mono ?_; rintro e w' ⟨rfl, hb'⟩)
        go_ret
        exact ⟨rfl, hb'⟩

set_option maxHeartbeats 400000 in
theorem model_big (s : ByteArray) (w : World) (hs : s.size ≤ maxLen) (hsz : ¬ s.size ≤ 1024) : Calls Ybaf.prog 3 #[.string s] w fun e w' => e = .returned (.bool true) ∧ Below w.heap.size w w' := by
  unfold maxLen at hs
  have h : (1024 : Int) < (s.size : Int) := by omega
  go_enter Ybaf.func3, Ybaf.ntmps3
  go_wp2
  go_ret
  exact ⟨rfl, Below.refl _ _⟩

end Go.Proofs.YbulkczhuFmt
