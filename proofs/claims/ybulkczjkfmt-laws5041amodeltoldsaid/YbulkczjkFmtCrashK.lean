/-
  (*LogChecker).Crash of a process that there is: walked, messages and all.
-/
import Derived.Test.YbulkczjkFmtCrashM
namespace Go.Proofs.YbulkczjkFmt
open Go.RowKit Go.Maps

theorem proc_inM : ∀ n, n ≤ 4 → ∀ t, t < n → Maps.has (procD n) (.string (idB t).data.toList) = true := by
  intro n hn t ht
  have : (n = 1 ∧ t = 0) ∨ (n = 2 ∧ t = 0) ∨ (n = 2 ∧ t = 1) ∨ (n = 3 ∧ t = 0) ∨ (n = 3 ∧ t = 1) ∨ (n = 3 ∧ t = 2) ∨ (n = 4 ∧ t = 0) ∨ (n = 4 ∧ t = 1) ∨ (n = 4 ∧ t = 2) ∨ (n = 4 ∧ t = 3) := by omega
  rcases this with ⟨rfl, rfl⟩ | ⟨rfl, rfl⟩ | ⟨rfl, rfl⟩ | ⟨rfl, rfl⟩ | ⟨rfl, rfl⟩ | ⟨rfl, rfl⟩ | ⟨rfl, rfl⟩ | ⟨rfl, rfl⟩ | ⟨rfl, rfl⟩ | ⟨rfl, rfl⟩ <;> rfl

theorem crL_done (cm n t : Nat) (ht : t < n) (hb : bitN cm t = true) : (crL cm n n).set t (.bool true) = crL cm n n := by
  apply List.ext_getElem
  · simp
  · intro i h1 h2
    rw [List.getElem_set]
    split
    · subst_vars; simp [crL, ht, hb]
    · rfl

theorem crashM_done (B n mm cm t L : Nat) (ms : Nat → Msg) (w : World) (lc g : Nat) (m : Nat → Nat) (ao : Option Addr) (mc nd dl : Nat) (va : Option Addr) (vc : Nat) (hn : n ≤ 4) (ht : t < n) (hbit : bitN cm t = true) (h : BuiltM B n mm cm t L ms w lc g m ao mc nd dl (.slice va L vc)) :
    Calls Ybaf.prog 13 #[.pointer (some ⟨lc, 0, none⟩), .string (idB t)] w fun e w' => e = .returned (.tuple #[]) ∧
      AfterM B n mm cm t L ms (bs0 ms) (bc0 ms) (ow0 ms) (expN ms L : Int) (survN mm cm n : Int) w w' lc g m ao mc va vc := by
  have HA : Hid (AfterM B n mm cm t L ms (bs0 ms) (bc0 ms) (ow0 ms) (expN ms L : Int) (survN mm cm n : Int) w w lc g m ao mc va vc) := by
    obtain ⟨q, _, _, _, _, _, _, _, hq⟩ := h.place
    exact ⟨h.row, fun h0 => ⟨q, (hq h0).1, (hq h0).2.2⟩, h.grp, by rw [crL_done cm n t ht hbit]; exact h.crashed, h.stopped, h.last, Below.refl _ _⟩
  obtain ⟨c, hrun, hat, hwc⟩ := h.procs.lookup_int Ybaf.law9 Ybaf.underlying41 Ybaf.underlying3 (Ybaf.zeroValue3 _) (idB_key t)
  rw [proc_at n hn t ht] at hat
  obtain rfl : c = (t : Int) := by simpa using hat.symm
  have c1 : w.cell? ⟨lc, 1, none⟩ = some (.map (some (m 4))) := h.row.cell 1
  have c2 : w.cell? ⟨lc, 2, none⟩ = some (.slice (some ⟨m 6, 0, none⟩) n n) := h.row.cell 2
  have c3 : w.cell? ⟨m 6, t, none⟩ = some (.bool true) := by rw [h.crashed.cell t]; simp [crL, ht, hbit]
  clear h hat hwc
  go_enter Ybaf.func13, Ybaf.ntmps13
  go_wp2
  exact bodyPost_ret (v := .tuple #[]) (by simp [results, Ybaf.results13, go_sem]) rfl ⟨rfl, HA.out⟩

set_option maxHeartbeats 1600000 in
theorem Crash_of (B n mm cm t L : Nat) (ms : Nat → Msg) (w : World) (lc g : Nat) (m : Nat → Nat) (ao : Option Addr) (mc nd dl : Nat) (v : Value) (hn : n ≤ 4) (ht : t < n) (h : BuiltM B n mm cm t L ms w lc g m ao mc nd dl v) (Q : World → Prop)
    (hC : Calls Ybaf.prog 13 #[.pointer (some ⟨lc, 0, none⟩), .string (idB t)] w fun e w' => e = .returned (.tuple #[]) ∧ Q w') :
    Calls Ybaf.prog 8 #[.pointer (some ⟨lc, 0, none⟩), .string (idB t)] w fun e w' => e = .returned .nilIface ∧ Q w' := by
  have hhas := proc_inM n hn t ht
  have HC := hide hC
  have c1 : w.cell? ⟨lc, 1, none⟩ = some (.map (some (m 4))) := h.row.cell 1
  have HP := hide h.procs
  have hkey := idB_key t
  clear h hC
  go_enter Ybaf.func8, Ybaf.ntmps8
  go_wp2_with (at_lookup; refine wpList_lookup_own_ok_int _ rfl _ _ 41 rfl 9 3 .i64 Ybaf.law9 Ybaf.underlying41 Ybaf.underlying3 (Ybaf.zeroValue3 _) (m 4) n _ rfl HP.out _ _ rfl hkey ?_; intro c hat hwc; rw [hhas])
  refine (HC.out).mono ?_
  rintro e w1 ⟨rfl, hb⟩
  have HB := hide hb
  clear hb HC
  go_wp2_with fail
  go_ret
  exact ⟨rfl, HB.out⟩

end Go.Proofs.YbulkczjkFmt
