/-
  notProcessError: walked; fmt.Errorf told.
-/
import Derived.Test.YbulkczjkFmtCrash
import Derived.LaidEql
import Derived.Stop.Asserts
import Derived.Stop.CallBack
import Derived.Stop.IfaceNil
import Derived.RowKitTokens
namespace Go.Proofs.YbulkczjkFmt
open Go.RowKit Go.Extern.Stop Go.Stop Go.Extern

theorem call22 (args : Array Value) (w : World) : (callFunc 22 args).run Ybaf.prog w = ((FmtStop.errorf #[9, 83] #[32] args).run Ybaf.prog w).andThen fun v w' => .ok (.value v) w' :=
  run_callFunc_extern Ybaf.func22 (by kernel_rfl) (by kernel_rfl) (by kernel_rfl) (by kernel_rfl) args w
theorem fguard (name : String) (w : World) : (FmtStop.guard name).run Ybaf.prog w = .ok () w := by kernel_rfl
theorem fmt0 : FmtStop.printed? ⟨#[112, 114, 111, 99, 101, 115, 115, 32, 37, 113, 32, 105, 115, 32, 110, 111, 116, 32, 97, 32, 112, 114, 111, 99, 101, 115, 115, 32, 111, 102, 32, 116, 104, 101, 32, 99, 108, 117, 115, 116, 101, 114]⟩ 1 = some [(0, 113, false)] := by kernel_rfl
theorem fmt0r (w : World) : (FmtDoors.printed ⟨#[112, 114, 111, 99, 101, 115, 115, 32, 37, 113, 32, 105, 115, 32, 110, 111, 116, 32, 97, 32, 112, 114, 111, 99, 101, 115, 115, 32, 111, 102, 32, 116, 104, 101, 32, 99, 108, 117, 115, 116, 101, 114]⟩ 1).run Ybaf.prog w = .ok [(0, 113, false)] w := by kernel_rfl
def shape9 : List UInt8 := [12, 6, 0, 0, 0, 0, 0, 0, 0, 115, 116, 114, 105, 110, 103]
theorem op9_113w (name : String) (b : Bool) (x : ByteArray) (w : World) : (FmtStop.operand name b 113 false (.iface 9 (.string x))).run Ybaf.prog w = .ok (shape9, FmtStop.pack x.data.toList) w := by kernel_rfl
theorem ptr86 (w : World) : (FmtStop.ptrTo "errors.errorString").run Ybaf.prog w = .ok 86 w := by kernel_rfl
theorem elem86 (w : World) : (elemOf 86).run Ybaf.prog w = .ok 88 w := by kernel_rfl
theorem isError86 (w : World) : (FmtDoors.textMethod 86 "Error").run Ybaf.prog w = .ok true w := by kernel_rfl

set_option maxRecDepth 100000 in
set_option maxHeartbeats 1600000 in
theorem errorf_any (F : Interp) (s : ByteArray) (g : Nat) (w : World) (hF : F.answers w.tape) (h1 : w.cell? ⟨g, 0, none⟩ = some (.iface 9 (.string s))) :
    Calls Ybaf.prog 17 #[.string ⟨#[112, 114, 111, 99, 101, 115, 115, 32, 37, 113, 32, 105, 115, 32, 110, 111, 116, 32, 97, 32, 112, 114, 111, 99, 101, 115, 115, 32, 111, 102, 32, 116, 104, 101, 32, 99, 108, 117, 115, 116, 101, 114]⟩, .slice (some ⟨g, 0, none⟩) 1 1] w fun e w' => (∃ t v, e = .returned (.iface t v)) ∧ Below w.heap.size w w' := by
  have hF' := answers_open hF
  have k1 := call22
  have k2 := fguard
  have k3 := fmt0
  have k4 := fmt0r
  have k5 := op9_113w
  have k6 := ptr86
  have k7 := elem86
  have k8 := isError86
  go_enter Ybaf.func17, Ybaf.ntmps17
  go_wp2
  go_ret
  exact ⟨⟨_, _, rfl⟩, ((Below.refl _ _).alloc (Nat.le_refl _) _).drew⟩

set_option maxRecDepth 100000 in
set_option maxHeartbeats 1600000 in
theorem notProc_any (F : Interp) (s : ByteArray) (w : World) (hF : F.answers w.tape) :
    Calls Ybaf.prog 12 #[.string s] w fun e w' => (∃ t v, e = .returned (.iface t v)) ∧ Below w.heap.size w w' := by
  have HE := hide (errorf_any F s w.heap.size (w.alloc (.cells #[.iface 9 (.string s)] 20)) hF (by simp))
  go_enter Ybaf.func12, Ybaf.ntmps12
  go_wp2_with fail
  refine (HE.out).mono ?_
  rintro e w1 ⟨⟨t, v, rfl⟩, hb⟩
  have HB := hide (((Below.refl w.heap.size w).alloc (Nat.le_refl _) _).trans (hb.mono (by simp)))
  clear hb HE
  go_wp2_with fail
  go_ret
  exact ⟨⟨t, v, rfl⟩, HB.out⟩

open Go.Maps in
set_option maxHeartbeats 1600000 in
theorem Crash_unknown (F : Interp) (B n mm cm t : Nat) (w : World) (lc g : Nat) (m : Nat → Nat) (ao : Option Addr) (mc nd dl : Nat) (s : ByteArray) (hs : s.size ≤ maxLen) (hF : F.answers w.tape) (hno : ∀ i, i < n → s ≠ idB i) (h : Built B n mm cm t w lc g m ao mc nd dl) :
    Calls Ybaf.prog 8 #[.pointer (some ⟨lc, 0, none⟩), .string s] w fun e w' => (∃ t v, e = .returned (.iface t v)) ∧ Below w.heap.size w w' := by
  have hhas : Maps.has (procD n) (.string s.data.toList) = false := by
    cases hh : Maps.has (procD n) (.string s.data.toList) with
    | false => rfl
    | true =>
      obtain ⟨i, hi, e⟩ := proc_has n _ hh
      refine absurd ?_ (hno i hi)
      cases s with
      | mk d =>
        have : d = (idB i).data := by simpa using congrArg List.toArray e
        rw [this]
  have c1 : w.cell? ⟨lc, 1, none⟩ = some (.map (some (m 4))) := h.row.cell 1
  have HP := hide h.procs
  have HN := hide (notProc_any F s w hF)
  have hkey := key_of s hs
  clear h hno hF
  go_enter Ybaf.func8, Ybaf.ntmps8
  go_wp2_with (at_lookup; refine wpList_lookup_own_ok_int _ rfl _ _ 41 rfl 9 3 .i64 Ybaf.law9 Ybaf.underlying41 Ybaf.underlying3 (Ybaf.zeroValue3 _) (m 4) n _ rfl HP.out _ _ rfl hkey ?_; intro c hat hwc; rw [hhas])
  refine (HN.out).mono ?_
  rintro e w1 ⟨⟨t, v, rfl⟩, hb⟩
  have HB := hide hb
  clear hb HN
  go_wp2_with fail
  go_ret
  exact ⟨⟨t, v, rfl⟩, HB.out⟩

open Go.Maps in
theorem proc_in : ∀ n, n ≤ 4 → ∀ t, t < n → Maps.has (procD n) (.string (idB t).data.toList) = true := by
  intro n hn t ht
  have : (n = 1 ∧ t = 0) ∨ (n = 2 ∧ t = 0) ∨ (n = 2 ∧ t = 1) ∨ (n = 3 ∧ t = 0) ∨ (n = 3 ∧ t = 1) ∨ (n = 3 ∧ t = 2) ∨ (n = 4 ∧ t = 0) ∨ (n = 4 ∧ t = 1) ∨ (n = 4 ∧ t = 2) ∨ (n = 4 ∧ t = 3) := by omega
  rcases this with ⟨rfl, rfl⟩ | ⟨rfl, rfl⟩ | ⟨rfl, rfl⟩ | ⟨rfl, rfl⟩ | ⟨rfl, rfl⟩ | ⟨rfl, rfl⟩ | ⟨rfl, rfl⟩ | ⟨rfl, rfl⟩ | ⟨rfl, rfl⟩ | ⟨rfl, rfl⟩ <;> rfl

open Go.Maps in
set_option maxHeartbeats 1600000 in
theorem Crash_known (B n mm cm t : Nat) (w : World) (lc g : Nat) (m : Nat → Nat) (ao : Option Addr) (mc nd dl : Nat) (hn : n ≤ 4) (ht : t < n) (h : Built B n mm cm t w lc g m ao mc nd dl) :
    Calls Ybaf.prog 8 #[.pointer (some ⟨lc, 0, none⟩), .string (idB t)] w fun e w' => e = .returned .nilIface ∧ But [m 6, g] w w' ∧
      RowT w' 4 (m 6) ((crL cm n n).set t (.bool true)) ∧ RowT w' 30 g [.slice ao (memN mm n).length mc, .int .i64 (svN mm cm n t (bitN cm t))] := by
  have hhas := proc_in n hn t ht
  have HC : Hid (Calls Ybaf.prog 13 #[.pointer (some ⟨lc, 0, none⟩), .string (idB t)] w fun e w' => e = .returned (.tuple #[]) ∧ But [m 6, g] w w' ∧
      RowT w' 4 (m 6) ((crL cm n n).set t (.bool true)) ∧ RowT w' 30 g [.slice ao (memN mm n).length mc, .int .i64 (svN mm cm n t (bitN cm t))]) := by
    cases hb : bitN cm t with
    | true =>
      refine (crash_done B n mm cm t w lc g m ao mc nd dl hn ht hb h).mono ?_
      rintro e w' ⟨rfl, rfl⟩
      refine ⟨rfl, But.refl _ _, ?_, by rw [sv_on]; exact h.grp⟩
      have e : (crL cm n n).set t (.bool true) = crL cm n n := by
        apply List.ext_getElem
        · simp
        · intro i h1 h2
          rw [List.getElem_set]
          split
          · subst_vars; simp [crL, ht, hb]
          · rfl
      rw [e]
      exact h.crashed
    | false => exact crash_any B n mm cm t w lc g m ao mc nd dl hn ht hb h
  have c1 : w.cell? ⟨lc, 1, none⟩ = some (.map (some (m 4))) := h.row.cell 1
  have HP := hide h.procs
  have hkey := idB_key t
  clear h
  go_enter Ybaf.func8, Ybaf.ntmps8
  go_wp2_with (at_lookup; refine wpList_lookup_own_ok_int _ rfl _ _ 41 rfl 9 3 .i64 Ybaf.law9 Ybaf.underlying41 Ybaf.underlying3 (Ybaf.zeroValue3 _) (m 4) n _ rfl HP.out _ _ rfl hkey ?_; intro c hat hwc; rw [hhas])
  refine (HC.out).mono ?_
  rintro e w1 ⟨rfl, hb⟩
  have HB := hide hb
  clear hb HC
  go_wp2_with fail
  go_ret
  exact ⟨rfl, HB.out⟩

end Go.Proofs.YbulkczjkFmt
