/-
  readStamp: walked, on a stamp that was written.
-/
import Derived.Test.YbulkczjkFmtRead
namespace Go.Proofs.YbulkczjkFmt
open Go.RowKit

/-- What is written of pairs k, k+1, .., n of them. -/
def restS (al ca : Nat → Nat) (k n : Nat) : List UInt8 := (List.range' k n).flatMap fun i => encP (al i) (ca i)

theorem restS_succ (al ca : Nat → Nat) (k n : Nat) : restS al ca k (n + 1) = encP (al k) (ca k) ++ restS al ca (k + 1) n := by
  simp [restS, List.range'_succ]

theorem encS_rest (m : Nat) (al ca : Nat → Nat) : encS m al ca m = Lib.uvarint m ++ restS al ca 0 m := by
  simp [encS, restS, List.range_eq_range']

theorem restS_ge (al ca : Nat → Nat) (n : Nat) : ∀ k, 2 * n ≤ (restS al ca k n).length := by
  induction n with
  | zero => intro k; simp
  | succ n ih =>
    intro k
    have h1 := ih (k + 1)
    have h2 := Lib.uvarint_pos (al k)
    have h3 := Lib.uvarint_pos (lagN (al k) (ca k))
    rw [restS_succ, List.length_append]
    unfold encP
    rw [List.length_append]
    omega

/-- Well formed: no time past the largest, no causal time past the time. -/
def WfP (m : Nat) (al ca : Nat → Nat) : Prop := ∀ i, i < m → al i ≤ 4611686018427387904 ∧ ca i ≤ al i

theorem lag_wf {a c : Nat} (h : c ≤ a) (ha : a ≤ 4611686018427387904) : lagN a c = a - c := by unfold lagN; omega

set_option maxRecDepth 100000 in
set_option maxHeartbeats 3200000 in
theorem readSt (N m : Nat) (al ca : Nat → Nat) (hm : m ≤ 1024) (hwf : WfP m al ca) (t : List UInt8) (rv : Value) (w : World) (hN : N ≤ w.heap.size) (h : RestIs w N rv (encS m al ca m ++ t)) :
    Calls Ybaf.prog 10 #[rv] w fun e w' => ∃ g rv', e = .returned (.tuple #[.slice (some ⟨g, 0, none⟩) m m, rv', .nilIface]) ∧ Below w.heap.size w w' ∧ RestIs w' N rv' t ∧ RowS w' g (stCells al ca m m) := by
  rw [encS_rest, List.append_assoc] at h
  have HU := fun s => hide (readUv N m (by omega) _ rv s w h)
  have HWF := hide hwf
  obtain ⟨i9, hi9, hz90, hz91, hz92⟩ := info_parts Ybaf.info57
  clear h hwf
  go_enter Ybaf.func10, Ybaf.ntmps10
  go_wp2_with fail
  refine ((HU _).out).mono ?_
  rintro e w1 ⟨rv1, rfl, hb1, hr1⟩
  have HB1 := hide hb1
  have HR1 := hide hr1
  clear HU
  have hsh : ∃ ao ln c, rv1 = .slice ao ln c ∧ 2 * m ≤ ln ∧ ln ≤ 9223372036854775807 := by
    obtain ⟨ao, c, e, hcc, hcm, _⟩ := hr1
    unfold maxLen at hcm
    exact ⟨ao, _, c, e, by have := restS_ge al ca m 0; rw [List.length_append]; omega, by omega⟩
  clear hr1
  obtain ⟨ao, ln, c, rfl, hln, hcm⟩ := hsh
  clear hb1
  go_wp2_with (at_make; refine wpList_make_full _ rfl (.tmp 28) (.tmp 28) 52 rfl 0 57 i9 (.agg #[.int .u64 0, .int .u64 0]) 2 Ybaf.underlying52 hi9 hz90 hz91 .u64 .u64 m m m rfl rfl rfl rfl ?c4 ?c5 ?c6 ?_)
  case c4 => rw [hz92]; omega
  case c5 => unfold maxLen; omega
  case c6 => exact Nat.zero_le _
  intro w3 hown3 hgr3
  rw [st_made al ca] at hown3
  have HB3 : Hid (Below w1.heap.size w1 w3) := Below.grown (Below.refl _ _) hgr3 (Nat.le_refl _) (fun k hk => by cases hk)
  have HS3 := hide (own_full2 hown3)
  have HR3 : Hid (RestIs w3 N (.slice ao ln c) (restS al ca 0 (m - 0) ++ t)) := HR1.out.later HB3.out (Nat.le_trans hN HB1.out.size)
  clear hown3 hgr3 HR1 hi9 hz90 hz91 hz92
  go_wp2_with fail
  go_loopw [0, 32] (fun b i wr => ∃ k : Nat, k ≤ m ∧ i = .int .i64 k ∧ Hid (RowS wr w1.heap.size (stCells al ca m k)) ∧ Hid (Below w1.heap.size w1 wr) ∧ Hid (RestIs wr N b (restS al ca k (m - k) ++ t))) (fun _ i _ => m - (intOf i).toNat)
  case atStart => exact ⟨0, Nat.zero_le _, rfl, HS3, HB3, HR3⟩
  case round =>
    obtain ⟨k, hk, rfl, hrow, hbel, hres⟩ := hrel
    clear HS3 HB3 HR3
    by_cases hlt : k < m
    · obtain ⟨hal, hca⟩ := HWF.out k hlt
      have hr := hres.out
      rw [show m - k = (m - (k + 1)) + 1 by omega, restS_succ, encP, lag_wf hca hal, List.append_assoc, List.append_assoc] at hr
      have HTM := hide (readTm N (al k) (al k - ca k) hal (by omega) _ _ ⟨#[115, 116, 97, 109, 112, 32, 116, 105, 109, 101]⟩ (by decide) wr (Nat.le_trans (Nat.le_trans hN HB1.out.size) hbel.out.size) hr)
      clear hr hres
      go_wp2_with fail
      refine (HTM.out).mono ?_
      rintro e w4 ⟨rv4, rfl, hb4, hr4⟩
      rw [show al k - (al k - ca k) = ca k by omega]
      have HB4 := hide hb4
      have HR4 := hide hr4
      have hrow4 := hrow.out.later hb4
      clear hb4 hr4 HTM
      obtain ⟨v0, hv0⟩ : ∃ v0, w4.cell? ⟨w1.heap.size, k * 2, none⟩ = some v0 := ⟨_, by rw [hrow4.cell, List.getElem?_eq_getElem (by rw [st_len al ca m k hk]; omega)]⟩
      obtain ⟨v1, hv1⟩ : ∃ v1, w4.cell? ⟨w1.heap.size, k * 2 + 1, none⟩ = some v1 := ⟨_, by rw [hrow4.cell, List.getElem?_eq_getElem (by rw [st_len al ca m k hk]; omega)]⟩
      have f0 := hrow4.frozen (k * 2)
      have f1 := hrow4.frozen (k * 2 + 1)
      have HR := hide hrow4
      clear hrow4
      go_wp2_with fail
      go_roundw
      case rel =>
        refine ⟨k + 1, by omega, by go_num, ?_, ?_, ?_⟩
        · show RowS _ _ _
          rw [← st_step al ca m k hlt]
          exact (HR.out.set _ _).set _ _
        · exact ((hbel.out.trans (HB4.out.mono hbel.out.size)).setCell (Nat.le_refl _) _).setCell (Nat.le_refl _) _
        · exact HR4.out.later (((Below.refl w1.heap.size _).setCell (Nat.le_refl _) _).setCell (Nat.le_refl _) _) (Nat.le_trans hN HB1.out.size)
      case measure => simp [intOf]; omega
    · obtain rfl : m = k := by omega
      clear hlt hk
      have hr := hres.out
      rw [Nat.sub_self] at hr
      go_wp2_with fail
      refine bodyPost_ret (v := .tuple #[.slice (some ⟨w1.heap.size, 0, none⟩) m m, _, .nilIface]) (by simp [results, Ybaf.results10, go_sem]) rfl ⟨w1.heap.size, _, rfl, ?_, hr, hrow.out⟩
      exact HB1.out.trans (hbel.out.mono HB1.out.size)

end Go.Proofs.YbulkczjkFmt
