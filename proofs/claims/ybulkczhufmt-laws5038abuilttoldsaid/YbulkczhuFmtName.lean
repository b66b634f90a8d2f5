/-
  CheckName: walked.
-/
import Derived.Test.YbulkczhuFmtIs
namespace Go.Proofs.YbulkczhuFmt
open Go.RowKit Go.Extern.Stop Go.Stop Go.Extern

theorem hide {p : Prop} (h : p) : Hid p := h

/-! ### what the walk over fmt.errorf wants -/
theorem call12 (args : Array Value) (w : World) : (callFunc 12 args).run Ybaf.prog w = ((FmtStop.errorf #[9, 37] #[28] args).run Ybaf.prog w).andThen fun v w' => .ok (.value v) w' :=
  run_callFunc_extern Ybaf.func12 (by kernel_rfl) (by kernel_rfl) (by kernel_rfl) (by kernel_rfl) args w
theorem fguard (name : String) (w : World) : (FmtStop.guard name).run Ybaf.prog w = .ok () w := by kernel_rfl
theorem fmt0 : FmtStop.printed? ⟨#[37, 119, 32, 37, 113]⟩ 2 = some [(0, 119, false), (1, 113, false)] := by kernel_rfl
theorem fmt0r (w : World) : (FmtDoors.printed ⟨#[37, 119, 32, 37, 113]⟩ 2).run Ybaf.prog w = .ok [(0, 119, false), (1, 113, false)] w := by kernel_rfl
def shape9 : List UInt8 := [12, 6, 0, 0, 0, 0, 0, 0, 0, 115, 116, 114, 105, 110, 103]
theorem op9_113w (name : String) (x : ByteArray) (w : World) : (FmtStop.operand name true 113 false (.iface 9 (.string x))).run Ybaf.prog w = .ok (shape9, FmtStop.pack x.data.toList) w := by kernel_rfl
theorem ptr50 (w : World) : (FmtStop.ptrTo "errors.errorString").run Ybaf.prog w = .ok 50 w := by kernel_rfl
theorem elem50 (w : World) : (elemOf 50).run Ybaf.prog w = .ok 52 w := by kernel_rfl
theorem isError50 (w : World) : (FmtDoors.textMethod 50 "Error").run Ybaf.prog w = .ok true w := by kernel_rfl
theorem ptr38 (w : World) : (FmtStop.ptrTo "fmt.wrapError").run Ybaf.prog w = .ok 38 w := by kernel_rfl
theorem elem38 (w : World) : (elemOf 38).run Ybaf.prog w = .ok 77 w := by kernel_rfl
theorem isError38 (w : World) : (FmtDoors.textMethod 38 "Error").run Ybaf.prog w = .ok true w := by kernel_rfl
/-- The name of the sentinel's type, off the given row. -/
def nErr : String := match (Rows.laid_example_com_stowage_stowage_internal_store_ErrInvalidName : DataW Unit) with
  | .iface n _ => n
  | _ => ""
def plain50 : List UInt8 := 14 :: FmtStop.pack nErr.toUTF8.data.toList
theorem opPlain50_119w (name : String) (a : Addr) (s : ByteArray) (w : World) (hc : w.cell? a = some (.string s)) :
    (FmtStop.operand name true 119 false (.iface 50 (.pointer (some a)))).run Ybaf.prog w = .ok (plain50, s.data.toList) w := by
  have h1 : (typeStr 50).run Ybaf.prog w = .ok nErr w := by kernel_rfl
  have d2 : Ybaf.t50.desc = .pointer 52 := rfl
  have d3 : Ybaf.t52.desc = .named "errors.errorString" 51 := rfl
  simp [FmtStop.operand, h1, d2, d3, run_load, hc, plain50]

/-! ### the names that are taken -/
def okB (c : UInt8) : Bool := (decide (97 ≤ c.toNat) && decide (c.toNat ≤ 122)) || (decide (65 ≤ c.toNat) && decide (c.toNat ≤ 90)) || (decide (48 ≤ c.toNat) && decide (c.toNat ≤ 57)) || decide (c.toNat = 46) || decide (c.toNat = 95) || decide (c.toNat = 45)
def headB (s : ByteArray) : Bool := decide (1 ≤ s.size) && decide (s.size ≤ 63) && !(s.toList == [46]) && !(s.toList == [46, 46])
def allB (s : ByteArray) (k : Nat) : Bool := (s.data.toList.take k).all okB
def nameB (s : ByteArray) : Bool := headB s && allB s s.size

theorem allB_succ (s : ByteArray) (k : Nat) (h : k < s.size) : allB s (k + 1) = (allB s k && okB s[k]) := by
  unfold allB
  rw [List.take_succ_eq_append_getElem (by simpa using h), List.all_append]
  simp
  rfl

set_option maxRecDepth 100000 in
set_option maxHeartbeats 800000 in
/-- fmt.Errorf at this format, the sentinel and a string. -/
theorem errorf_any (F : Interp) (a : Addr) (s0 s : ByteArray) (g : Nat) (w : World) (hF : F.answers w.tape) (h0 : w.cell? ⟨g, 0, none⟩ = some (.iface 50 (.pointer (some a)))) (h1 : w.cell? ⟨g, 1, none⟩ = some (.iface 9 (.string s)))
    (hs : w.cell? a = some (.string s0)) :
    Calls Ybaf.prog 9 #[.string ⟨#[37, 119, 32, 37, 113]⟩, .slice (some ⟨g, 0, none⟩) 2 2] w fun e w' => e = .returned (.iface 38 (.pointer (some ⟨w.heap.size, 0, none⟩))) ∧
      w'.cell? ⟨w.heap.size, 0 + 1, none⟩ = some (.iface 50 (.pointer (some a))) ∧ Below w.heap.size w w' := by
  have hF' := answers_open hF
  have hop := opPlain50_119w "fmt.errorf" a s0 w hs
  have k1 := call12
  have k2 := fguard
  have k3 := fmt0
  have k4 := fmt0r
  have k5 := op9_113w
  have k6 := ptr50
  have k7 := elem50
  have k8 := isError50
  have k9 := ptr38
  have k10 := elem38
  have k11 := isError38
  go_enter Ybaf.func9, Ybaf.ntmps9
  go_wp2
  go_ret
  exact ⟨rfl, by simp, ((Below.refl _ _).alloc (Nat.le_refl _) _).drew⟩

/-- The variable, and the text behind it. -/
structure Sent (w : World) (a : Addr) (s0 : ByteArray) : Prop where
  v0 : w.cell? ⟨0, 0, none⟩ = some (.iface 50 (.pointer (some a)))
  t0 : w.cell? a = some (.string s0)

/-- How CheckName ends. -/
def NamePost (s : ByteArray) (a : Addr) (w : World) (e : Ending) (w' : World) : Prop :=
  (nameB s = true ∧ e = .returned .nilIface ∧ w' = w) ∨
  (nameB s = false ∧ ∃ r, e = .returned (.iface 38 (.pointer (some ⟨r, 0, none⟩))) ∧ w'.cell? ⟨r, 0 + 1, none⟩ = some (.iface 50 (.pointer (some a))) ∧ Below w.heap.size w w')

/-- What stands behind the variadic slice's block. -/
theorem errorf_box (F : Interp) (a : Addr) (s0 s : ByteArray) (w : World) (hF : F.answers w.tape) (hS : Sent w a s0) :
    Calls Ybaf.prog 9 #[.string ⟨#[37, 119, 32, 37, 113]⟩, .slice (some ⟨w.heap.size, 0, none⟩) 2 2] (w.alloc (.cells #[.iface 50 (.pointer (some a)), .iface 9 (.string s)] 20)) fun e w' =>
      ∃ r, e = .returned (.iface 38 (.pointer (some ⟨r, 0, none⟩))) ∧ w'.cell? ⟨r, 0 + 1, none⟩ = some (.iface 50 (.pointer (some a))) ∧ Below w.heap.size w w' := by
  have ht : (w.alloc (.cells #[.iface 50 (.pointer (some a)), .iface 9 (.string s)] 20)).cell? a = some (.string s0) :=
    (World.cell?_of_block (Below.heap_alloc w _ a.block (World.block_lt_of_cell? w a hS.t0))).trans hS.t0
  refine (errorf_any F a s0 s w.heap.size (w.alloc (.cells #[.iface 50 (.pointer (some a)), .iface 9 (.string s)] 20)) hF (by simp) (by simp) ht).mono ?_
  rintro e w' ⟨rfl, h1, h2⟩
  exact ⟨_, rfl, h1, ((Below.refl w.heap.size w).alloc (Nat.le_refl _) _).trans (h2.mono (by simp))⟩

theorem allB_mono (s : ByteArray) (k : Nat) (hk : k ≤ s.size) (h : allB s k = false) : allB s s.size = false := by
  cases hx : allB s s.size with
  | false => rfl
  | true =>
    have h1 : ∀ x ∈ s.data.toList.take s.size, okB x = true := List.all_eq_true.1 hx
    have h2 : allB s k = true := List.all_eq_true.2 fun x hx => h1 x (List.take_subset_take_left _ hk hx)
    rw [h] at h2; cases h2

set_option maxRecDepth 100000 in
set_option maxHeartbeats 1600000 in
theorem name_head (F : Interp) (a : Addr) (s0 s : ByteArray) (w : World) (hF : F.answers w.tape) (hS : Sent w a s0) (h1 : 1 ≤ s.size) (h2 : s.size ≤ 63) (h3 : (s.toList == [46]) = false) (h4 : (s.toList == [46, 46]) = false) :
    Calls Ybaf.prog 7 #[.string s] w (NamePost s a w) := by
  have hh : headB s = true := by simp [headB, h1, h2, h3, h4]
  have HH := hide hh
  have HE := hide (errorf_box F a s0 s w hF hS)
  have hv := hS.v0
  clear hh hF hS
  go_enter Ybaf.func7, Ybaf.ntmps7
  go_wp2
  go_loop [3, 4] (fun o i => ∃ k : Nat, k ≤ s.size ∧ i = .int .i64 k ∧ ∃ b, Hid (b = allB s k) ∧ o = .bool b) (fun _ i => s.size - (intOf i).toNat)
  case atStart => exact ⟨0, Nat.zero_le _, rfl, true, rfl, rfl⟩
  case round =>
    obtain ⟨k, hk, rfl, b, hb, rfl⟩ := hrel
    cases b with
    | false =>
      go_wp2_with (go_at_call 9; refine (HE.out).mono ?_; rintro e w1 ⟨r, rfl, hc1, hb1⟩)
      go_ret
      exact .inr ⟨by simp [nameB, allB_mono s k hk hb.out.symm], r, rfl, hc1, hb1⟩
    | true =>
      by_cases hlt : k < s.size
      · have hstep : Hid (allB s (k + 1) = okB s[k]) := by show _ = _; rw [allB_succ s k hlt, ← hb.out, Bool.true_and]
        go_wp2_with fail
        all_goals
          go_round
          case rel =>
            refine ⟨k + 1, by omega, by go_num, _, ?_, rfl⟩
            show _ = _
            rw [hstep.out, Bool.eq_iff_iff]
            simp [okB]
            try omega
          case measure => simp [intOf]; omega
      · obtain rfl : s.size = k := by omega
        go_wp2_with fail
        go_ret
        exact .inl ⟨by simp [nameB, HH.out, ← hb.out], rfl, rfl⟩

set_option maxRecDepth 100000 in
set_option maxHeartbeats 1600000 in
theorem name_nohead (F : Interp) (a : Addr) (s0 s : ByteArray) (w : World) (hF : F.answers w.tape) (hS : Sent w a s0) (hsz : s.size ≤ 1024) (hh : headB s = false) :
    Calls Ybaf.prog 7 #[.string s] w (NamePost s a w) := by
  have hN : nameB s = false := by simp [nameB, hh]
  have HE := hide (errorf_box F a s0 s w hF hS)
  have hv := hS.v0
  have HN := hide hN
  clear hN hF hS
  by_cases h1 : 1 ≤ s.size
  · by_cases h2 : s.size ≤ 63
    · cases h3 : (s.toList == [46]) with
      | true =>
        clear hh
        go_enter Ybaf.func7, Ybaf.ntmps7
        go_wp2
        refine wp_loop_rounds 1 ?_
        rw [rounds_succ]
        go_wp2_with (go_at_call 9; refine (HE.out).mono ?_; rintro e w1 ⟨r, rfl, hc1, hb1⟩)
        go_ret
        exact .inr ⟨HN.out, r, rfl, hc1, hb1⟩
      | false =>
        have h4 : (s.toList == [46, 46]) = true := by
          cases h4 : (s.toList == [46, 46]) with
          | true => rfl
          | false => simp [headB, h1, h2, h3, h4] at hh
        clear hh
        go_enter Ybaf.func7, Ybaf.ntmps7
        go_wp2
        refine wp_loop_rounds 1 ?_
        rw [rounds_succ]
        go_wp2_with (go_at_call 9; refine (HE.out).mono ?_; rintro e w1 ⟨r, rfl, hc1, hb1⟩)
        go_ret
        exact .inr ⟨HN.out, r, rfl, hc1, hb1⟩
    · clear hh
      go_enter Ybaf.func7, Ybaf.ntmps7
      go_wp2
      refine wp_loop_rounds 1 ?_
      rw [rounds_succ]
      go_wp2_with (go_at_call 9; refine (HE.out).mono ?_; rintro e w1 ⟨r, rfl, hc1, hb1⟩)
      go_ret
      exact .inr ⟨HN.out, r, rfl, hc1, hb1⟩
  · clear hh
    go_enter Ybaf.func7, Ybaf.ntmps7
    go_wp2
    refine wp_loop_rounds 1 ?_
    rw [rounds_succ]
    go_wp2_with (go_at_call 9; refine (HE.out).mono ?_; rintro e w1 ⟨r, rfl, hc1, hb1⟩)
    go_ret
    exact .inr ⟨HN.out, r, rfl, hc1, hb1⟩

/-- CheckName. -/
theorem name_any (F : Interp) (a : Addr) (s0 s : ByteArray) (w : World) (hF : F.answers w.tape) (hS : Sent w a s0) (hsz : s.size ≤ 1024) :
    Calls Ybaf.prog 7 #[.string s] w (NamePost s a w) := by
  cases hh : headB s with
  | false => exact name_nohead F a s0 s w hF hS hsz hh
  | true =>
    simp only [headB, Bool.and_eq_true, decide_eq_true_eq, Bool.not_eq_true'] at hh
    exact name_head F a s0 s w hF hS hh.1.1.1 hh.1.1.2 hh.1.2 hh.2

set_option maxRecDepth 100000 in
set_option maxHeartbeats 800000 in
/-- zzs5038acheck, asked what the name is. -/
theorem check_any (F : Interp) (a : Addr) (s0 s : ByteArray) (w : World) (hF : F.answers w.tape) (hS : Sent w a s0) (hsz : s.size ≤ 1024) :
    Calls Ybaf.prog 6 #[.string s, .bool (nameB s)] w fun e w' => e = .returned (.bool true) ∧ Below w.heap.size w w' := by
  have HN := hide (name_any F a s0 s w hF hS hsz)
  have hv := hS.v0
  have h0 : 0 < w.heap.size := World.block_lt_of_cell? w ⟨0, 0, none⟩ hv
  clear hF hS
  cases hb : nameB s with
  | true =>
    have HQ : Hid (∀ e w', NamePost s a w e w' → e = .returned .nilIface ∧ w' = w) := by
      intro e w' h
      rcases h with ⟨_, h⟩ | ⟨h, _⟩
      · exact h
      · rw [hb] at h; cases h
    clear hb
    go_enter Ybaf.func6, Ybaf.ntmps6
    go_wp2_with (go_at_call 7; refine (HN.out).mono ?_; intro e w' hq; obtain ⟨rfl, hw'⟩ := HQ.out e w' hq; obtain rfl := hw'.symm)
    go_ret
    exact ⟨rfl, Below.refl _ _⟩
  | false =>
    have HQ : Hid (∀ e w', NamePost s a w e w' → ∃ r, e = .returned (.iface 38 (.pointer (some ⟨r, 0, none⟩))) ∧ w'.cell? ⟨r, 0 + 1, none⟩ = some (.iface 50 (.pointer (some a))) ∧ Below w.heap.size w w') := by
      intro e w' h
      rcases h with ⟨h, _⟩ | ⟨_, h⟩
      · rw [hb] at h; cases h
      · exact h
    clear hb
    go_enter Ybaf.func6, Ybaf.ntmps6
    go_wp2_with (first
      | (go_at_call 7; refine (HN.out).mono ?_; intro e w1 hq; obtain ⟨r, rfl, hc1, hb1⟩ := HQ.out e w1 hq; have hv1 := (hb1.cell (p := ⟨0, 0, none⟩) h0).trans hv; have HC1 := hide hc1; have HB1 := hide hb1; clear hq hc1 hb1)
      | (go_at_call 8; refine (is_wrap_same r 0 a _ HC1.out).mono ?_; rintro e w2 ⟨rfl, hw2⟩; obtain rfl := hw2.symm))
    go_ret
    exact ⟨rfl, HB1.out⟩

end Go.Proofs.YbulkczhuFmt
