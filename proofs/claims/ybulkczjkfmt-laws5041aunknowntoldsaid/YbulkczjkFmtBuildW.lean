/-
  zzs5041abuild: walked, without messages.
-/
import Derived.Test.YbulkczjkFmtBuild
namespace Go.Proofs.YbulkczjkFmt
open Go.RowKit Go.Maps

set_option maxRecDepth 100000 in
set_option maxHeartbeats 3200000 in
theorem build_any (n mm cm t : Nat) (hn : n ≤ 4) (hn1 : 1 ≤ n) (hmm : mm < 256) (hcm : cm < 256) (ht : t < n) (w : World) :
    Calls Ybaf.prog 7 #[.int .i64 n, .int .u8 mm, .int .u8 cm, .slice none 0 0, .int .i64 t] w fun e w' => ∃ lc g m ao mc nd dl, e = .returned (.tuple #[.pointer (some ⟨lc, 0, none⟩), .pointer (some ⟨g, 0, none⟩), .int .i64 0]) ∧ Below w.heap.size w w' ∧ Built w.heap.size n mm cm t w' lc g m ao mc nd dl := by
  have HID := hide (ids_any w)
  obtain ⟨i9, hi9, hz90, hz91, hz92⟩ := info_parts Ybaf.info9
  go_enter Ybaf.func7, Ybaf.ntmps7
  go_wp2_with fail
  refine (HID.out).mono ?_
  rintro e w1 ⟨rfl, rfl⟩
  clear HID
  go_wp2_with fail
  go_loopw [14, 15, 16] (fun v s i wr => ∃ k : Nat, k ≤ n ∧ i = .int .i64 k ∧ s = .int .i64 (survN mm cm k) ∧ Hid (wr.ownsRow (w.heap.size + 1) 9 1 v (memN mm k).length (memV mm k)) ∧ Hid ((w.alloc idsRow).grownBy wr none)) (fun _ _ i _ => n - (intOf i).toNat)
  case atStart => exact ⟨0, Nat.zero_le _, rfl, rfl, World.ownsRow_nil _ _ _ _, World.grownBy.refl _ _⟩
  case round =>
    obtain ⟨k, hk, rfl, rfl, hown, hgr⟩ := hrel
    by_cases hlt : k < n
    · have hid : wr.cell? ⟨w.heap.size, k, none⟩ = some (.string (idB k)) := (cell_grown hgr.out (a := ⟨w.heap.size, k, none⟩) (by simp) (by simp)).trans (ids_cell w k (by omega))
      have hsl := survN_le mm cm k
      have hml := memL_le mm k
      have hws : w.heap.size + 1 ≤ wr.heap.size := by have := hgr.out.size; simpa using this
      cases hm : bitN mm k with
      | false =>
        have hb := bit_off hmm hm
        go_wp2_with fail
        go_roundw
        case rel =>
          refine ⟨k + 1, by omega, by go_num, ?_, ?_, hgr⟩
          · rw [survN_succ, hm]; rfl
          · rw [memV_off hm, memL_off hm]; exact hown
        case measure => simp [intOf]; omega
      | true =>
        have hb := bit_on hmm hm
        cases hc : bitN cm k with
        | false =>
          have hb2 := bit_off hcm hc
          go_wp2_with (at_builtin; refine wpList_append_own _ rfl _ _ 23 rfl (w.heap.size + 1) 9 i9 (.string ByteArray.empty) 1 16 Ybaf.underlying23 hi9 hz90 hz91 hz92 rfl (by decide) _ _ _ rfl (hown.out.alloc _) ⟨wr.heap.size, 0, none⟩ 1 1 [.string (idB k)] rfl rfl (cell_one_new _ _ _) (fun x hx => by simp at hx; subst hx; rfl) (by unfold maxLen; omega) (by omega) (by simp; omega) ?_; intro v' w3 hown' hgrow3 hnil3)
          have HO := hide hown'
          have HG := hide (grownBy_then (grownBy_trans hgr.out (World.grownBy_alloc wr _ none)) hgrow3 (fun g e => .inr (by have := own_base hown.out g e; simpa using this)))
          clear hown' hgrow3 hnil3
          go_wp2_with fail
          go_roundw
          case rel =>
            refine ⟨k + 1, by omega, by go_num, ?_, ?_, HG⟩
            · rw [survN_succ, hm, hc]; go_num
            · rw [memV_on hm, memL_on hm]; exact HO
          case measure => simp [intOf]; omega
        | true =>
          have hb2 := bit_on hcm hc
          go_wp2_with (at_builtin; refine wpList_append_own _ rfl _ _ 23 rfl (w.heap.size + 1) 9 i9 (.string ByteArray.empty) 1 16 Ybaf.underlying23 hi9 hz90 hz91 hz92 rfl (by decide) _ _ _ rfl (hown.out.alloc _) ⟨wr.heap.size, 0, none⟩ 1 1 [.string (idB k)] rfl rfl (cell_one_new _ _ _) (fun x hx => by simp at hx; subst hx; rfl) (by unfold maxLen; omega) (by omega) (by simp; omega) ?_; intro v' w3 hown' hgrow3 hnil3)
          have HO := hide hown'
          have HG := hide (grownBy_then (grownBy_trans hgr.out (World.grownBy_alloc wr _ none)) hgrow3 (fun g e => .inr (by have := own_base hown.out g e; simpa using this)))
          clear hown' hgrow3 hnil3
          go_wp2_with fail
          go_roundw
          case rel =>
            refine ⟨k + 1, by omega, by go_num, ?_, ?_, HG⟩
            · rw [survN_succ, hm, hc]; rfl
            · rw [memV_on hm, memL_on hm]; exact HO
          case measure => simp [intOf]; omega
    · obtain rfl : n = k := by omega
      clear hlt hk
      obtain ⟨ao, mc, rfl⟩ : ∃ ao mc, u14 = .slice ao (memN mm n).length mc := by
        rcases hown.out.2 with ⟨rfl, e⟩ | ⟨g', cap, cur, e, _⟩
        · exact ⟨none, 0, by rw [e]⟩
        · exact ⟨_, _, e⟩
      go_wp2_with fail
      refine region12 (n := n) (g := wr.heap.size) (by kernel_rfl) (by simp) rfl rfl (by omega) ?_
      intro m lc w2 hmade
      have HM := hide hmade
      have HC : Hid (RowT w2 4 (m 6) (crL cm 0 n)) := by rw [← crL_zero]; exact hmade.crashed
      have HPR : Hid (w2.ownsMap Ybaf.prog 9 (plainElem Ybaf.prog 3) (m 4) 0 (procD 0)) := hmade.procs
      have hlc4 := (hmade.le 4 rfl).2
      have hlc6 := (hmade.le 6 rfl).2
      have hm4 : wr.heap.size + 1 ≤ m 4 := by have := (hmade.le 4 rfl).1; simpa using this
      have hm6 : wr.heap.size + 1 ≤ m 6 := by have := (hmade.le 6 rfl).1; simpa using this
      have hnm : lc ∉ [m 4, m 6] := by simp; omega
      have hw1 : w.heap.size + 1 ≤ wr.heap.size := by have := hgr.out.size; simpa using this
      have hids : ∀ k, k < n → w2.cell? ⟨w.heap.size, k, none⟩ = some (.string (idB k)) := fun k hk =>
        (cell_grown hmade.grown (a := ⟨w.heap.size, k, none⟩) (by simp; omega) (by simp)).trans ((cell_old ((cell_grown hgr.out (a := ⟨w.heap.size, k, none⟩) (by simp) (by simp)).trans (ids_cell w k (by omega)))))
      have HIDS := hide hids
      have hgA : (w.alloc idsRow).grownBy (wr.alloc (.cells #[.slice ao (memN mm n).length mc, .int .i64 (survN mm cm n)] 30)) none := grownBy_trans hgr.out (World.grownBy_alloc wr _ none)
      have HGR : Hid (RowT w2 30 wr.heap.size [.slice ao (memN mm n).length mc, .int .i64 (survN mm cm n)]) := RowT.kept (w := wr.alloc (.cells #[.slice ao (memN mm n).length mc, .int .i64 (survN mm cm n)] 30)) (show (wr.heap.push _)[wr.heap.size]? = _ from Array.getElem?_push_size) hmade.grown (by simp)
      have HME : Hid (w2.ownsRow (w.heap.size + 1) 9 1 (.slice ao (memN mm n).length mc) (memN mm n).length (memV mm n)) := ((hown.out.alloc _).kept hmade.grown (by cases ao <;> simp [Value.ownBlock]))
      have HW2 : Hid (Below w.heap.size w w2) := by
        have h0 : Below w.heap.size w (w.alloc idsRow) := (Below.refl _ _).alloc (Nat.le_refl _) _
        have h1 := below_of_none hgA
        have h2 := below_of_none hmade.grown
        exact (h0.trans (h1.mono (by simp))).trans (h2.mono (Nat.le_trans (by simp) hgA.size))
      clear hgA
      have HGS : Hid (wr.heap.size ∉ [m 4, m 6, lc]) := by show _ ∉ _; simp; omega
      have hgw : w.heap.size ≤ wr.heap.size := by omega
      have hx4 : w.heap.size < m 4 := by omega
      have hx6 : w.heap.size < m 6 := by omega
      clear hmade hids
      simp only [puts, putL]
      go_frame
      go_wp2_with fail
      go_loopw [19] (fun i wx => ∃ k : Nat, k ≤ n ∧ i = .int .i64 k ∧ Hid (RowT wx 4 (m 6) (crL cm k n)) ∧ Hid (wx.ownsMap Ybaf.prog 9 (plainElem Ybaf.prog 3) (m 4) k (procD k)) ∧ Hid (But [m 4, m 6] w2 wx)) (fun i _ => n - (intOf i).toNat)
      case atStart => exact ⟨0, Nat.zero_le _, rfl, HC, HPR, But.refl _ _⟩
      case round =>
        obtain ⟨k, hk, rfl, hcr, hpr, hbut⟩ := hrel
        clear HC HPR
        have hlr := hbut.out.row HM.out.row hnm
        by_cases hlt : k < n
        · have c1 : wr.cell? ⟨lc, 1, none⟩ = some (.map (some (m 4))) := hlr.cell 1
          have c2 : wr.cell? ⟨lc, 2, none⟩ = some (.slice (some ⟨m 6, 0, none⟩) n n) := hlr.cell 2
          have hi2 := HIDS.out k hlt
          have hid : wr.cell? ⟨w.heap.size, k, none⟩ = some (.string (idB k)) := (World.cell?_of_block (hbut.out.block w.heap.size (World.block_lt_of_cell? w2 _ hi2) (by simp; omega))).trans hi2
          clear hi2
          obtain ⟨w3, hr3, ho3, hg3⟩ := (hpr.out.drew).update Ybaf.law9 Ybaf.underlying41 (by unfold maxLen; omega) (key := .string (idB k)) (val := .int .i64 k) (idB_key k) (plainElem_int Ybaf.underlying3 (WalkArith.wf_i64 (by omega)))
          have hne : some (m 6) ≠ some (m 4) := by
            intro e
            exact hcr.out.neMap hpr.out (by simpa using e)
          have hg3' : wr.grownBy w3 (some (m 4)) := ⟨hg3.os, hg3.tape, hg3.output, hg3.size, hg3.block⟩
          have hcr3 := hcr.out.kept hg3' hne
          have c23 : w3.cell? ⟨lc, 2, none⟩ = some (.slice (some ⟨m 6, 0, none⟩) n n) := (hlr.kept hg3' (by simp; omega)).cell 2
          have hv3 : w3.cell? ⟨m 6, k, none⟩ = some (.bool (decide (k < k) && bitN cm k)) := by
            rw [hcr3.cell k]
            simp [crL, hlt]
          have hf3 := hcr3.frozen k
          have HS : Hid (RowT (w3.setCell ⟨m 6, k, none⟩ (.bool (bitN cm k))) 4 (m 6) (crL cm (k + 1) n)) := by rw [← crL_step]; exact hcr3.set _ _
          have HP3 : Hid ((w3.setCell ⟨m 6, k, none⟩ (.bool (bitN cm k))).ownsMap Ybaf.prog 9 (plainElem Ybaf.prog 3) (m 4) (k + 1) (procD (k + 1))) := by
            rw [procD_succ]
            exact ho3.kept (grownBy_setCell w3 (m 6) k _) (Ne.symm hne)
          have HB3 : Hid (But [m 4, m 6] w2 (w3.setCell ⟨m 6, k, none⟩ (.bool (bitN cm k)))) := (hbut.out.next hg3' (fun g e => by cases e; simp)).next (grownBy_setCell w3 (m 6) k _) (fun g e => by cases e; simp)
          have HAND := and_one cm k hcm
          clear ho3 hg3 hg3' hcr3 hlr hne
          cases hc : bitN cm k with
          | true =>
            rw [hc] at HS HP3 HB3 HAND
            simp only [if_true] at HAND
            go_wp2_with fail
            go_region
            go_wp2_with fail
            go_roundw
            case rel => exact ⟨k + 1, by omega, by go_num, HS, HP3, HB3⟩
            case measure => simp [intOf]; omega
          | false =>
            rw [hc] at HS HP3 HB3 HAND
            simp only [Bool.false_eq_true, if_false] at HAND
            go_wp2_with fail
            go_region
            go_wp2_with fail
            go_roundw
            case rel => exact ⟨k + 1, by omega, by go_num, HS, HP3, HB3⟩
            case measure => simp [intOf]; omega
        · obtain rfl : n = k := by omega
          clear hlt hk
          have hmm2 := @run_makeMap Ybaf.prog
          go_wp2_with fail
          go_loopw [21, 22] (fun e i wx => e = .int .i64 0 ∧ i = .int .i64 0 ∧ Hid (wx = wr.alloc (.map #[] 0))) (fun _ _ _ => 0)
          case atStart => exact ⟨rfl, rfl, rfl⟩
          case round =>
            obtain ⟨rfl, rfl, hwx⟩ := hrel
            have hwx' := hwx.out
            subst hwx'
            have hlr2 : RowT (wr.alloc (.map #[] 0)) 47 lc (lcCells n m) := hlr.kept (World.grownBy_alloc wr _ none) (by simp)
            have c11 : (wr.alloc (.map #[] 0)).cell? ⟨lc, 11, none⟩ = some (.int .i64 0) := hlr2.cell 11
            have f11 := hlr2.frozen 11
            have hn11 : m 11 ∉ [m 4, m 6] := by
              have h1 := HM.out.inj 11 4 rfl rfl (by omega)
              have h2 := HM.out.inj 11 6 rfl rfl (by omega)
              simp [h1, h2]
            have hl11 := (HM.out.le 11 rfl).2
            have hg5 : But [m 4, m 6, lc] w2 ((wr.alloc (.map #[] 0)).setCell ⟨lc, 11, none⟩ (.int .i64 0)) := by
              have h1 : But [m 4, m 6, lc] w2 wr := ⟨hbut.out.os, hbut.out.tape, hbut.out.output, hbut.out.size, fun b hb hne => hbut.out.block b hb (fun e => hne (by simp at e ⊢; omega))⟩
              exact (h1.next (World.grownBy_alloc wr _ none) (fun g e => by cases e)).next (grownBy_setCell _ lc 11 _) (fun g e => by cases e; simp)
            have hno5 : ((wr.alloc (.map #[] 0)).setCell ⟨lc, 11, none⟩ (.int .i64 0)).ownsMap Ybaf.prog 9 ptrElem (m 11) 0 (.map []) := hg5.map HM.out.nodes (by simp at hn11 ⊢; omega)
            have hlr5 : RowT ((wr.alloc (.map #[] 0)).setCell ⟨lc, 11, none⟩ (.int .i64 0)) 47 lc (lcCells n m) := by
              have := hlr2.set 11 (.int .i64 0)
              exact this
            have hcr5 : RowT ((wr.alloc (.map #[] 0)).setCell ⟨lc, 11, none⟩ (.int .i64 0)) 4 (m 6) (crL cm n n) := (hcr.out.kept (World.grownBy_alloc wr _ none) (by simp)).kept (grownBy_setCell _ lc 11 _) (by simp; omega)
            have hpr5 : ((wr.alloc (.map #[] 0)).setCell ⟨lc, 11, none⟩ (.int .i64 0)).ownsMap Ybaf.prog 9 (plainElem Ybaf.prog 3) (m 4) n (procD n) := (hpr.out.alloc _).kept (grownBy_setCell _ lc 11 _) (by simp; omega)
            have hdl5 : ((wr.alloc (.map #[] 0)).setCell ⟨lc, 11, none⟩ (.int .i64 0)).ownsMap (H := Unit) Ybaf.prog 3 (plainElem Ybaf.prog 4) wr.heap.size 0 (.map []) := (World.ownsMap_made wr _ _ _).kept (grownBy_setCell _ lc 11 _) (by have := hlr.lt; simp; omega)
            have HDLT : Hid (lc < wr.heap.size) := hlr.lt
            clear hlr hlr2 hwx
            go_wp2_with fail
            generalize (wr.alloc (.map #[] 0)).setCell ⟨lc, 11, none⟩ (.int .i64 0) = w5 at *
            have hdlt := HDLT.out
            have c5 : w5.cell? ⟨lc, 5, none⟩ = some (.map (some (m 11))) := hlr5.cell 5
            have hi2 := HIDS.out t ht
            have hid : w5.cell? ⟨w.heap.size, t, none⟩ = some (.string (idB t)) := (World.cell?_of_block (hg5.block w.heap.size (World.block_lt_of_cell? w2 _ hi2) (by simp; omega))).trans hi2
            have hszl : lc < w5.heap.size := hlr5.lt
            have hszi : w.heap.size < w5.heap.size := World.block_lt_of_cell? w5 _ hid
            clear hi2
            obtain ⟨wA, hrA, hoA, hgA⟩ := ((((hno5.alloc (.map #[] 0)).alloc (.map #[] 0)).alloc (.cells #[.string (idB t), .int .i64 t, .slice none 0 0, .int .i64 0, .int .u64 0, .map (some wr.heap.size), .int .u64 1, .map (some w5.heap.size), .map (some (w5.heap.size + 1))] 68)).drew).update Ybaf.law9 Ybaf.underlying42 (by unfold maxLen; omega) (key := .string (idB t)) (val := .pointer (some ⟨w5.heap.size + 2, 0, none⟩)) (idB_key t) (d := .lit (.int .i64 ((w5.heap.size + 2 : Nat) : Int))) (ps := []) rfl
            obtain ⟨wB, hrB, hoB, hgB⟩ := ((((hno5.alloc (.map #[] 0)).alloc (.map #[] 0)).alloc (.cells #[.string (idB t), .int .i64 t, .slice none 0 0, .int .i64 0, .int .u64 0, .map (some wr.heap.size), .int .u64 1, .map (some (w5.heap.size + 1)), .map (some w5.heap.size)] 68)).drew).update Ybaf.law9 Ybaf.underlying42 (by unfold maxLen; omega) (key := .string (idB t)) (val := .pointer (some ⟨w5.heap.size + 2, 0, none⟩)) (idB_key t) (d := .lit (.int .i64 ((w5.heap.size + 2 : Nat) : Int))) (ps := []) rfl
            have s9 : ∀ b ∈ [m 4, m 6, lc], ∀ cur : Array Value, w2.heap[b]? ≠ some (Obj.cells cur 9 (0, 0)) := by
              intro b hb cur e
              simp only [List.mem_cons, List.not_mem_nil, or_false] at hb
              rcases hb with rfl | rfl | rfl
              · obtain ⟨es, cl, hm, _⟩ := HM.out.procs
                rw [hm] at e; cases e
              · have := HM.out.crashed
                unfold RowT at this
                rw [this] at e; cases e
              · have := HM.out.row
                unfold RowT at this
                rw [this] at e; cases e
            have HF : Hid (Five n mm cm w5 lc _ m ao mc wr.heap.size) := ⟨hlr5, hg5.row HGR.out HGS.out, owns_weaken (own_kept HME.out fun b cur hb => hg5.block b (Array.getElem?_eq_some_iff.1 hb).1 (fun e => s9 b e cur hb)), hg5.map HM.out.groups (by
              have h1 := HM.out.inj 0 4 rfl rfl (by omega)
              have h2 := HM.out.inj 0 6 rfl rfl (by omega)
              have h3 := (HM.out.le 0 rfl).2
              simp [h1, h2]; omega), hpr5, hno5, hcr5, hdl5, HM.out.inj 0 11 rfl rfl (by omega), HM.out.inj 4 11 rfl rfl (by omega), by omega⟩
            have HW5 : Hid (Below w.heap.size w w5) := HW2.out.trans (hg5.below (by
              intro b hb
              simp only [List.mem_cons, List.not_mem_nil, or_false] at hb
              rcases hb with rfl | rfl | rfl <;> omega) HW2.out.size)
            have h11 := (HM.out.le 11 rfl).1
            have H11 : Hid (w.heap.size ≤ m 11) := by show _ ≤ _; simp at h11; omega
            have HLE : Hid (w.heap.size ≤ lc ∧ w.heap.size ≤ _ ∧ w.heap.size ≤ m 6) := ⟨by omega, hgw, by omega⟩
            have n1 : (w5.alloc (.map #[] 0)).cell? ⟨w.heap.size, t, none⟩ = some (.string (idB t)) := cell_old hid
            have n2 := cell_old (o := .map #[] 0) n1
            have n3 := cell_old (o := .cells #[.string (idB t), .int .i64 t, .slice none 0 0, .int .i64 0, .int .u64 0, .map (some wr.heap.size), .int .u64 1, .map (some w5.heap.size), .map (some (w5.heap.size + 1))] 68) n2
            have n4 := cell_old (o := .cells #[.string (idB t), .int .i64 t, .slice none 0 0, .int .i64 0, .int .u64 0, .map (some wr.heap.size), .int .u64 1, .map (some (w5.heap.size + 1)), .map (some w5.heap.size)] 68) n2
            have q1 : (w5.alloc (.map #[] 0)).cell? ⟨lc, 5, none⟩ = some (.map (some (m 11))) := cell_old c5
            have q2 := cell_old (o := .map #[] 0) q1
            have q3 := cell_old (o := .cells #[.string (idB t), .int .i64 t, .slice none 0 0, .int .i64 0, .int .u64 0, .map (some wr.heap.size), .int .u64 1, .map (some w5.heap.size), .map (some (w5.heap.size + 1))] 68) q2
            have q4 := cell_old (o := .cells #[.string (idB t), .int .i64 t, .slice none 0 0, .int .i64 0, .int .u64 0, .map (some wr.heap.size), .int .u64 1, .map (some (w5.heap.size + 1)), .map (some w5.heap.size)] 68) q2
            have BA : Hid (Below w.heap.size w wA) := Below.grown (row := some (m 11)) ((((HW5.out.alloc (by omega) _).alloc (by simp; omega) _).alloc (by simp; omega) _).drew) hgA (by simp; omega) (fun k e => by cases e; exact H11.out)
            have BB : Hid (Below w.heap.size w wB) := Below.grown (row := some (m 11)) ((((HW5.out.alloc (by omega) _).alloc (by simp; omega) _).alloc (by simp; omega) _).drew) hgB (by simp; omega) (fun k e => by cases e; exact H11.out)
            have FA := hide (HF.out.built (B := w.heap.size) (t := t) HLE.out hoA hgA)
            have FB := hide (HF.out.built (B := w.heap.size) (t := t) HLE.out hoB hgB)
            clear hoA hgA hoB hgB hg5 hlr5 hcr5 hpr5 hdl5 hno5 c11 f11 h11 s9 HF HW5
            go_region
            · go_wp2_with fail
              refine bodyPost_ret (v := .tuple #[.pointer (some ⟨lc, 0, none⟩), .pointer (some ⟨_, 0, none⟩), .int .i64 0]) ?res rfl ⟨lc, _, m, ao, mc, _, _, rfl, BA.out, FA.out⟩
              case res => simp [results, Ybaf.results7, go_sem]
            · go_wp2_with fail
              refine bodyPost_ret (v := .tuple #[.pointer (some ⟨lc, 0, none⟩), .pointer (some ⟨_, 0, none⟩), .int .i64 0]) ?res rfl ⟨lc, _, m, ao, mc, _, _, rfl, BB.out, FB.out⟩
              case res => simp [results, Ybaf.results7, go_sem]

end Go.Proofs.YbulkczjkFmt
