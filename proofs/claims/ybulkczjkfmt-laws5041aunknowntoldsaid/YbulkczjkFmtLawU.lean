/-
  LawS5041AUnknown: walked.
-/
import Derived.Test.YbulkczjkFmtErr
import Derived.Test.YbulkczjkFmtBuildW
namespace Go.Proofs.YbulkczjkFmt
open Go.RowKit Go.Maps Go.Extern.Stop Go.Stop Go.Extern

def knownZ (s : ByteArray) : Nat → Int
  | 0 => -1
  | k + 1 => if (idB k).toList == s.toList then k else knownZ s k

theorem id_eq {k : Nat} {s : ByteArray} (h : ((idB k).toList == s.toList) = true) : s = idB k := by
  have := eq_of_beq h
  rw [ByteArray.toList_eq, ByteArray.toList_eq] at this
  exact (WideShapes.bytes_inj this).symm

theorem known_none {s : ByteArray} : ∀ k, (∀ i, i < k → s ≠ idB i) → knownZ s k = -1
  | 0, _ => rfl
  | k + 1, h => by
    cases e : ((idB k).toList == s.toList) with
    | true => exact absurd (id_eq e) (h k (by omega))
    | false =>
      rw [knownZ, e]
      exact known_none k fun i hi => h i (by omega)

theorem known_at {t : Nat} (ht : t < 4) : ∀ k, k ≤ 4 → knownZ (idB t) k = if t < k then (t : Int) else -1
  | 0, _ => rfl
  | k + 1, h => by
    rw [knownZ, id_inj k (by omega) t ht, known_at ht k (by omega)]
    by_cases e : k = t
    · subst e; simp
    · simp only [e, decide_false, Bool.false_eq_true, if_false]
      by_cases h2 : t < k
      · rw [if_pos h2, if_pos (by omega)]
      · rw [if_neg h2, if_neg (by omega)]

theorem known_bounds (s : ByteArray) : ∀ k, -1 ≤ knownZ s k ∧ knownZ s k < k
  | 0 => by simp [knownZ]
  | k + 1 => by
    have := known_bounds s k
    rw [knownZ]
    split <;> omega

theorem crL_at (cm n i : Nat) (h : i < n) : (crL cm n n)[i]? = some (.bool (bitN cm i)) := by simp [crL, h]

theorem mem15 : ∀ n, n ≤ 4 → ∀ t, t < n → bitN 15 t = true := by decide

set_option maxRecDepth 100000 in
set_option maxHeartbeats 3200000 in
theorem unknown_any (F : Interp) (x cm : Nat) (s : ByteArray) (hx : x < 256) (hcm : cm < 256) (hs : s.size ≤ maxLen) (w : World) (hF : F.answers w.tape) :
    Calls Ybaf.prog 4 #[.int .u8 x, .string s, .int .u8 cm] w fun e w' => e = .returned (.bool true) ∧ Below w.heap.size w w' := by
  obtain ⟨q, hq⟩ : ∃ q, q = x % 4 := ⟨_, rfl⟩
  obtain ⟨n, hn⟩ : ∃ n, n = q + 1 := ⟨_, rfl⟩
  have hq3 : q ≤ 3 := by omega
  have hn1 : 1 ≤ n := by omega
  have hn4 : n ≤ 4 := by omega
  have hqI : ((x : Int) % 4) = (q : Int) := by omega
  have HNI : Hid ((q : Int) + 1 = (n : Int)) := by show _ = _; omega
  clear hq hn
  have HID := hide (ids_any w)
  have HF := hide hF
  clear hF
  go_enter Ybaf.func4, Ybaf.ntmps4
  go_wp2_with fail
  try rw [hqI]
  rw [HNI.out]
  clear hqI
  refine (HID.out).mono ?_
  rintro e w1 ⟨rfl, rfl⟩
  clear HID
  go_wp2_with fail
  go_loopw [9, 10] (fun kn i wr => ∃ k : Nat, k ≤ n ∧ i = .int .i64 k ∧ kn = .int .i64 (knownZ s k) ∧ Hid (wr = w.alloc idsRow)) (fun _ i _ => n - (intOf i).toNat)
  case atStart => exact ⟨0, Nat.zero_le _, rfl, rfl, rfl⟩
  case round =>
    obtain ⟨k, hk, rfl, rfl, hw⟩ := hrel
    have hw' := hw.out
    subst hw'
    by_cases hlt : k < n
    · have hid := ids_cell w k (by omega)
      cases he : ((idB k).toList == s.toList) with
      | true =>
        go_wp2_with fail
        go_roundw
        case rel => exact ⟨k + 1, by omega, by go_num, by rw [knownZ, he]; rfl, trivial⟩
        case measure => simp [intOf]; omega
      | false =>
        go_wp2_with fail
        go_roundw
        case rel => exact ⟨k + 1, by omega, by go_num, by rw [knownZ, he]; rfl, trivial⟩
        case measure => simp [intOf]; omega
    · obtain rfl : n = k := by omega
      clear hlt hk
      have hB0 : Below w.heap.size w (w.alloc idsRow) := (Below.refl _ _).alloc (Nat.le_refl _) _
      by_cases hkn : ∃ t, t < n ∧ s = idB t
      · obtain ⟨t, ht, rfl⟩ := hkn
        have hkz := known_at (t := t) (by omega) n hn4
        rw [if_pos ht] at hkz
        rw [hkz]
        have HBD := hide (build_any n 15 cm t hn4 hn1 (by omega) hcm ht (w.alloc idsRow))
        go_wp2_with fail
        refine (HBD.out).mono ?_
        rintro e w2 ⟨lc, g, m, ao, mc, nd, dl, rfl, hb2, hB⟩
        clear HBD
        have g1 : w2.cell? ⟨g, 1, none⟩ = some (.int .i64 (survN 15 cm n)) := hB.grp.cell 1
        have HCR := hide (Crash_known _ n 15 cm t w2 lc g m ao mc nd dl hn4 ht hB)
        have HB := hide hB
        have HB2 := hide hb2
        clear hB hb2
        go_wp2_with fail
        refine (HCR.out).mono ?_
        rintro e w3 ⟨rfl, hbut, hcr, hgr⟩
        clear HCR g1
        have hne6 : m 6 ≠ lc := HB.out.crashed.ne HB.out.row (by decide)
        have hneg : g ≠ lc := HB.out.grp.ne HB.out.row (by decide)
        have hlr := hbut.row HB.out.row (by simp; omega)
        have c2 : w3.cell? ⟨lc, 2, none⟩ = some (.slice (some ⟨m 6, 0, none⟩) n n) := hlr.cell 2
        have c6 : w3.cell? ⟨m 6, t, none⟩ = some (.bool true) := by rw [hcr.cell t]; simp [crL_len, ht]
        have cg : w3.cell? ⟨g, 1, none⟩ = some (.int .i64 (svN 15 cm n t (bitN cm t))) := hgr.cell 1
        have hle := HB.out.le
        have HBW : Hid (Below w.heap.size w w3) := (hB0.trans (HB2.out.mono (by simp))).trans (hbut.below (by
          intro b hb
          simp only [List.mem_cons, List.not_mem_nil, or_false] at hb
          simp at hle
          rcases hb with rfl | rfl <;> omega) (Nat.le_trans (by simp) HB2.out.size))
        have hsl := survN_le 15 cm n
        clear hbut hcr hgr hlr
        cases hc : bitN cm t with
        | true =>
          have hb := bit_on hcm hc
          rw [hc, sv_on] at cg
          go_wp2_with fail
          go_ret
          exact ⟨rfl, HBW.out⟩
        | false =>
          have hb := bit_off hcm hc
          rw [hc, sv_off_on (mem15 n hn4 t ht)] at cg
          go_wp2_with fail
          go_ret
          exact ⟨rfl, HBW.out⟩
      · have hno : ∀ i, i < n → s ≠ idB i := fun i hi e => hkn ⟨i, hi, e⟩
        have hkz := known_none n hno
        rw [hkz]
        have HBD := hide (build_any n 15 cm 0 hn4 hn1 (by omega) hcm (by omega) (w.alloc idsRow))
        clear hkn
        go_wp2_with fail
        refine (HBD.out).mono ?_
        rintro e w2 ⟨lc, g, m, ao, mc, nd, dl, rfl, hb2, hB⟩
        clear HBD
        have g1 : w2.cell? ⟨g, 1, none⟩ = some (.int .i64 (survN 15 cm n)) := hB.grp.cell 1
        have hF2 : F.answers w2.tape := by rw [hb2.tape]; exact HF.out
        have HCR := hide (Crash_unknown F _ n 15 cm 0 w2 lc g m ao mc nd dl s hs hF2 hno hB)
        have HB := hide hB
        have HB2 := hide hb2
        clear hB hb2 hF2
        go_wp2_with fail
        refine (HCR.out).mono ?_
        rintro e w3 ⟨⟨et, ev, rfl⟩, hb3⟩
        clear HCR g1
        have cg : w3.cell? ⟨g, 1, none⟩ = some (.int .i64 (survN 15 cm n)) := (hb3.cell (p := ⟨g, 1, none⟩) HB.out.grp.lt).trans (HB.out.grp.cell 1)
        have c11 : w3.cell? ⟨lc, 11, none⟩ = some (.int .i64 0) := (hb3.cell (p := ⟨lc, 11, none⟩) HB.out.row.lt).trans (HB.out.row.cell 11)
        have c2 : w3.cell? ⟨lc, 2, none⟩ = some (.slice (some ⟨m 6, 0, none⟩) n n) := (hb3.cell (p := ⟨lc, 2, none⟩) HB.out.row.lt).trans (HB.out.row.cell 2)
        have HCC : Hid (∀ i, i < n → w3.cell? ⟨m 6, i, none⟩ = some (.bool (bitN cm i))) := fun i hi => (hb3.cell (p := ⟨m 6, i, none⟩) HB.out.crashed.lt).trans ((HB.out.crashed.cell i).trans (crL_at cm n i hi))
        have HBW : Hid (Below w.heap.size w w3) := (hB0.trans (HB2.out.mono (by simp))).trans (hb3.mono (Nat.le_trans (by simp) HB2.out.size))
        clear hb3
        go_wp2_with fail
        go_loopw [17] (fun i wx => ∃ k : Nat, k ≤ n ∧ i = .int .i64 k ∧ Hid (wx = w3)) (fun i _ => n - (intOf i).toNat)
        case atStart => exact ⟨0, Nat.zero_le _, rfl, rfl⟩
        case round =>
          obtain ⟨k, hk, rfl, hw3⟩ := hrel
          have hw3' := hw3.out
          subst hw3'
          by_cases hlt : k < n
          · have hck := HCC.out k hlt
            cases hc : bitN cm k with
            | true =>
              have hb := bit_on hcm hc
              rw [hc] at hck
              go_wp2_with fail
              go_roundw
              case rel => exact ⟨k + 1, by omega, by go_num, trivial⟩
              case measure => simp [intOf]; omega
            | false =>
              have hb := bit_off hcm hc
              rw [hc] at hck
              go_wp2_with fail
              go_roundw
              case rel => exact ⟨k + 1, by omega, by go_num, trivial⟩
              case measure => simp [intOf]; omega
          · obtain rfl : n = k := by omega
            go_wp2_with fail
            go_ret
            exact ⟨rfl, HBW.out⟩

end Go.Proofs.YbulkczjkFmt
