/-
  zzs5041abuild: walked.
-/
import Derived.Test.YbulkczjkFmtBuiltM
import Derived.Test.YbulkczjkFmtCrash
import Derived.Test.YbulkczjkFmtOrd26
namespace Go.Proofs.YbulkczjkFmt
open Go.RowKit Go.Maps

theorem But.comp {S T : List Nat} {a b c : World} (h : But S a b) (k : But T b c) : But (S ++ T) a c :=
  ⟨k.os.trans h.os, k.tape.trans h.tape, k.output.trans h.output, Nat.le_trans h.size k.size, fun i hi hne => (k.block i (Nat.lt_of_lt_of_le hi h.size) (fun e => hne (List.mem_append_right _ e))).trans (h.block i hi (fun e => hne (List.mem_append_left _ e)))⟩

set_option maxRecDepth 100000 in
set_option maxHeartbeats 3200000 in
theorem buildM_any (n mm cm t : Nat) (hn : n ≤ 4) (hn1 : 1 ≤ n) (hmm : mm < 256) (hcm : cm < 256) (ht : t < n) (sa : Option Addr) (L sc : Nat) (ms : Nat → Msg) (hL : L ≤ 300) (w : World) (hin : MsgsIn w sa L ms) :
    Calls Ybaf.prog 7 #[.int .i64 n, .int .u8 mm, .int .u8 cm, .slice sa L sc, .int .i64 t] w fun e w' => ∃ lc g m ao mc nd dl v, e = .returned (.tuple #[.pointer (some ⟨lc, 0, none⟩), .pointer (some ⟨g, 0, none⟩), .int .i64 (expN ms L)]) ∧ Below w.heap.size w w' ∧ BuiltM w.heap.size n mm cm t L ms w' lc g m ao mc nd dl v := by
  have HID := hide (ids_any w)
  obtain ⟨i9, hi9, hz90, hz91, hz92⟩ := info_parts Ybaf.info9
  go_enter Ybaf.func7, Ybaf.ntmps7
  go_wp2_with fail
  refine (HID.out).mono ?_
  rintro e w1 ⟨rfl, rfl⟩
  clear HID
  go_wp2_with fail
  go_loopw [14, 15, 16] (fun v s i wr => ∃ k : Nat, k ≤ n ∧ i = .int .i64 k ∧ s = .int .i64 (survN mm cm k) ∧ Hid (wr.ownsRow (w.heap.size + 1) 9 1 v (memN mm k).length (memV mm k)) ∧ Hid ((w.alloc idsRow).grownBy wr none)) (fun _ _ i _ => n - (intOf i).toNat)
  case atStart => exact ⟨0, Nat.zero_le _, rfl, rfl, World.ownsRow_nil _ _ _ _, World.grownBy.refl _ _⟩
  case round =>
    obtain ⟨k, hk, rfl, rfl, hown, hgr⟩ := hrel
    by_cases hlt : k < n
    · have hid : wr.cell? ⟨w.heap.size, k, none⟩ = some (.string (idB k)) := (cell_grown hgr.out (a := ⟨w.heap.size, k, none⟩) (by simp) (by simp)).trans (ids_cell w k (by omega))
      have hsl := survN_le mm cm k
      have hml := memL_le mm k
      have hws : w.heap.size + 1 ≤ wr.heap.size := by have := hgr.out.size; simpa using this
      cases hm : bitN mm k with
      | false =>
        have hb := bit_off hmm hm
        go_wp2_with fail
        go_roundw
        case rel =>
          refine ⟨k + 1, by omega, by go_num, ?_, ?_, hgr⟩
          · rw [survN_succ, hm]; rfl
          · rw [memV_off hm, memL_off hm]; exact hown
        case measure => simp [intOf]; omega
      | true =>
        have hb := bit_on hmm hm
        cases hc : bitN cm k with
        | false =>
          have hb2 := bit_off hcm hc
          go_wp2_with (at_builtin; refine wpList_append_own _ rfl _ _ 23 rfl (w.heap.size + 1) 9 i9 (.string ByteArray.empty) 1 16 Ybaf.underlying23 hi9 hz90 hz91 hz92 rfl (by decide) _ _ _ rfl (hown.out.alloc _) ⟨wr.heap.size, 0, none⟩ 1 1 [.string (idB k)] rfl rfl (cell_one_new _ _ _) (fun x hx => by simp at hx; subst hx; rfl) (by unfold maxLen; omega) (by omega) (by simp; omega) ?_; intro v' w3 hown' hgrow3 hnil3)
          have HO := hide hown'
          have HG := hide (grownBy_then (grownBy_trans hgr.out (World.grownBy_alloc wr _ none)) hgrow3 (fun g e => .inr (by have := own_base hown.out g e; simpa using this)))
          clear hown' hgrow3 hnil3
          go_wp2_with fail
          go_roundw
          case rel =>
            refine ⟨k + 1, by omega, by go_num, ?_, ?_, HG⟩
            · rw [survN_succ, hm, hc]; go_num
            · rw [memV_on hm, memL_on hm]; exact HO
          case measure => simp [intOf]; omega
        | true =>
          have hb2 := bit_on hcm hc
          go_wp2_with (at_builtin; refine wpList_append_own _ rfl _ _ 23 rfl (w.heap.size + 1) 9 i9 (.string ByteArray.empty) 1 16 Ybaf.underlying23 hi9 hz90 hz91 hz92 rfl (by decide) _ _ _ rfl (hown.out.alloc _) ⟨wr.heap.size, 0, none⟩ 1 1 [.string (idB k)] rfl rfl (cell_one_new _ _ _) (fun x hx => by simp at hx; subst hx; rfl) (by unfold maxLen; omega) (by omega) (by simp; omega) ?_; intro v' w3 hown' hgrow3 hnil3)
          have HO := hide hown'
          have HG := hide (grownBy_then (grownBy_trans hgr.out (World.grownBy_alloc wr _ none)) hgrow3 (fun g e => .inr (by have := own_base hown.out g e; simpa using this)))
          clear hown' hgrow3 hnil3
          go_wp2_with fail
          go_roundw
          case rel =>
            refine ⟨k + 1, by omega, by go_num, ?_, ?_, HG⟩
            · rw [survN_succ, hm, hc]; rfl
            · rw [memV_on hm, memL_on hm]; exact HO
          case measure => simp [intOf]; omega
    · obtain rfl : n = k := by omega
      clear hlt hk
      obtain ⟨ao, mc, rfl⟩ : ∃ ao mc, u14 = .slice ao (memN mm n).length mc := by
        rcases hown.out.2 with ⟨rfl, e⟩ | ⟨g', cap, cur, e, _⟩
        · exact ⟨none, 0, by rw [e]⟩
        · exact ⟨_, _, e⟩
      go_wp2_with fail
      obtain ⟨g, hgE⟩ : ∃ g, wr.heap.size = g := ⟨_, rfl⟩
      rw [hgE]
      refine region12 (n := n) (g := g) (by kernel_rfl) (by simp) rfl rfl (by omega) ?_
      intro m lc w2 hmade
      have HM := hide hmade
      have HC : Hid (RowT w2 4 (m 6) (crL cm 0 n)) := by rw [← crL_zero]; exact hmade.crashed
      have HPR : Hid (w2.ownsMap Ybaf.prog 9 (plainElem Ybaf.prog 3) (m 4) 0 (procD 0)) := hmade.procs
      have hlc4 := (hmade.le 4 rfl).2
      have hlc6 := (hmade.le 6 rfl).2
      have hm4 : wr.heap.size + 1 ≤ m 4 := by have := (hmade.le 4 rfl).1; simpa using this
      have hm6 : wr.heap.size + 1 ≤ m 6 := by have := (hmade.le 6 rfl).1; simpa using this
      have hnm : lc ∉ [m 4, m 6] := by simp; omega
      have hw1 : w.heap.size + 1 ≤ wr.heap.size := by have := hgr.out.size; simpa using this
      have hids : ∀ k, k < n → w2.cell? ⟨w.heap.size, k, none⟩ = some (.string (idB k)) := fun k hk =>
        (cell_grown hmade.grown (a := ⟨w.heap.size, k, none⟩) (by simp; omega) (by simp)).trans ((cell_old ((cell_grown hgr.out (a := ⟨w.heap.size, k, none⟩) (by simp) (by simp)).trans (ids_cell w k (by omega)))))
      have HIDS := hide hids
      have hgA : (w.alloc idsRow).grownBy (wr.alloc (.cells #[.slice ao (memN mm n).length mc, .int .i64 (survN mm cm n)] 30)) none := grownBy_trans hgr.out (World.grownBy_alloc wr _ none)
      have HGR : Hid (RowT w2 30 g [.slice ao (memN mm n).length mc, .int .i64 (survN mm cm n)]) := by
        rw [← hgE]
        exact RowT.kept (w := wr.alloc (.cells #[.slice ao (memN mm n).length mc, .int .i64 (survN mm cm n)] 30)) (show (wr.heap.push _)[wr.heap.size]? = _ from Array.getElem?_push_size) hmade.grown (by simp)
      have HME : Hid (w2.ownsRow (w.heap.size + 1) 9 1 (.slice ao (memN mm n).length mc) (memN mm n).length (memV mm n)) := ((hown.out.alloc _).kept hmade.grown (by cases ao <;> simp [Value.ownBlock]))
      have HW2 : Hid (Below w.heap.size w w2) := by
        have h0 : Below w.heap.size w (w.alloc idsRow) := (Below.refl _ _).alloc (Nat.le_refl _) _
        have h1 := below_of_none hgA
        have h2 := below_of_none hmade.grown
        exact (h0.trans (h1.mono (by simp))).trans (h2.mono (Nat.le_trans (by simp) hgA.size))
      clear hgA
      have HGS : Hid (g ∉ [m 4, m 6, lc]) := by show _ ∉ _; simp; omega
      have hgw : w.heap.size ≤ g := by omega
      clear hgE
      have hx4 : w.heap.size < m 4 := by omega
      have hx6 : w.heap.size < m 6 := by omega
      clear hmade hids
      simp only [puts, putL]
      go_frame
      go_wp2_with fail
      go_loopw [19] (fun i wx => ∃ k : Nat, k ≤ n ∧ i = .int .i64 k ∧ Hid (RowT wx 4 (m 6) (crL cm k n)) ∧ Hid (wx.ownsMap Ybaf.prog 9 (plainElem Ybaf.prog 3) (m 4) k (procD k)) ∧ Hid (But [m 4, m 6] w2 wx)) (fun i _ => n - (intOf i).toNat)
      case atStart => exact ⟨0, Nat.zero_le _, rfl, HC, HPR, But.refl _ _⟩
      case round =>
        obtain ⟨k, hk, rfl, hcr, hpr, hbut⟩ := hrel
        clear HC HPR
        have hlr := hbut.out.row HM.out.row hnm
        by_cases hlt : k < n
        · have c1 : wr.cell? ⟨lc, 1, none⟩ = some (.map (some (m 4))) := hlr.cell 1
          have c2 : wr.cell? ⟨lc, 2, none⟩ = some (.slice (some ⟨m 6, 0, none⟩) n n) := hlr.cell 2
          have hi2 := HIDS.out k hlt
          have hid : wr.cell? ⟨w.heap.size, k, none⟩ = some (.string (idB k)) := (World.cell?_of_block (hbut.out.block w.heap.size (World.block_lt_of_cell? w2 _ hi2) (by simp; omega))).trans hi2
          clear hi2
          obtain ⟨w3, hr3, ho3, hg3⟩ := (hpr.out.drew).update Ybaf.law9 Ybaf.underlying41 (by unfold maxLen; omega) (key := .string (idB k)) (val := .int .i64 k) (idB_key k) (plainElem_int Ybaf.underlying3 (WalkArith.wf_i64 (by omega)))
          have hne : some (m 6) ≠ some (m 4) := by
            intro e
            exact hcr.out.neMap hpr.out (by simpa using e)
          have hg3' : wr.grownBy w3 (some (m 4)) := ⟨hg3.os, hg3.tape, hg3.output, hg3.size, hg3.block⟩
          have hcr3 := hcr.out.kept hg3' hne
          have c23 : w3.cell? ⟨lc, 2, none⟩ = some (.slice (some ⟨m 6, 0, none⟩) n n) := (hlr.kept hg3' (by simp; omega)).cell 2
          have hv3 : w3.cell? ⟨m 6, k, none⟩ = some (.bool (decide (k < k) && bitN cm k)) := by
            rw [hcr3.cell k]
            simp [crL, hlt]
          have hf3 := hcr3.frozen k
          have HS : Hid (RowT (w3.setCell ⟨m 6, k, none⟩ (.bool (bitN cm k))) 4 (m 6) (crL cm (k + 1) n)) := by rw [← crL_step]; exact hcr3.set _ _
          have HP3 : Hid ((w3.setCell ⟨m 6, k, none⟩ (.bool (bitN cm k))).ownsMap Ybaf.prog 9 (plainElem Ybaf.prog 3) (m 4) (k + 1) (procD (k + 1))) := by
            rw [procD_succ]
            exact ho3.kept (grownBy_setCell w3 (m 6) k _) (Ne.symm hne)
          have HB3 : Hid (But [m 4, m 6] w2 (w3.setCell ⟨m 6, k, none⟩ (.bool (bitN cm k)))) := (hbut.out.next hg3' (fun g e => by cases e; simp)).next (grownBy_setCell w3 (m 6) k _) (fun g e => by cases e; simp)
          have HAND := and_one cm k hcm
          clear ho3 hg3 hg3' hcr3 hlr hne
          cases hc : bitN cm k with
          | true =>
            rw [hc] at HS HP3 HB3 HAND
            simp only [if_true] at HAND
            go_wp2_with fail
            go_region
            go_wp2_with fail
            go_roundw
            case rel => exact ⟨k + 1, by omega, by go_num, HS, HP3, HB3⟩
            case measure => simp [intOf]; omega
          | false =>
            rw [hc] at HS HP3 HB3 HAND
            simp only [Bool.false_eq_true, if_false] at HAND
            go_wp2_with fail
            go_region
            go_wp2_with fail
            go_roundw
            case rel => exact ⟨k + 1, by omega, by go_num, HS, HP3, HB3⟩
            case measure => simp [intOf]; omega
        · obtain rfl : n = k := by omega
          clear hlt hk
          have hmm2 := @run_makeMap Ybaf.prog
          go_wp2_with fail
          have hdlt : lc < wr.heap.size := hlr.lt
          have HB4 : Hid (Below w.heap.size w (wr.alloc (.map #[] 0))) := (HW2.out.trans (hbut.out.below (by
            intro b hb
            simp only [List.mem_cons, List.not_mem_nil, or_false] at hb
            rcases hb with rfl | rfl <;> omega) HW2.out.size)).alloc (Nat.le_trans HW2.out.size hbut.out.size) _
          have HL4 : Hid (RowT (wr.alloc (.map #[] 0)) 47 lc ((lcCells n m).set 6 (.slice none 0 0))) := hlr.kept (World.grownBy_alloc wr _ none) (by simp)
          have HD4 : Hid ((wr.alloc (.map #[] 0)).ownsMap Ybaf.prog 3 (plainElem Ybaf.prog 4) wr.heap.size 0 (delD ms 0)) := World.ownsMap_made wr _ _ _
          obtain ⟨i39, hi39, hzM0, hzM1, hzM2⟩ := info_parts Ybaf.info39
          obtain ⟨dl, hdE⟩ : ∃ dl, wr.heap.size = dl := ⟨_, rfl⟩
          obtain ⟨w4, hw4⟩ : ∃ w4, wr.alloc (.map #[] 0) = w4 := ⟨_, rfl⟩
          have H4s : Hid (w4.heap.size = dl + 1) := by show _ = _; rw [← hw4, ← hdE]; simp
          have H24 : Hid (But [m 4, m 6] w2 w4) := by rw [← hw4]; exact hbut.out.next (World.grownBy_alloc wr _ none) (fun g e => by cases e)
          have HC4 : Hid (RowT w4 4 (m 6) (crL cm n n)) := by rw [← hw4]; exact hcr.out.kept (World.grownBy_alloc wr _ none) (by simp)
          have HP4 : Hid (w4.ownsMap Ybaf.prog 9 (plainElem Ybaf.prog 3) (m 4) n (procD n)) := by rw [← hw4]; exact hpr.out.alloc _
          have HDW : Hid (w2.heap.size ≤ dl) := by show _ ≤ _; rw [← hdE]; exact hbut.out.size
          rw [hw4, hdE]
          rw [hw4] at HB4 HL4 HD4
          rw [hdE] at HD4 hdlt
          have HLC := hide hdlt
          clear hlr hdlt hw4 hdE hcr hpr hbut
          go_loopw [21, 22] (fun e i wx => ∃ (k : Nat) (v : Value), k ≤ L ∧ i = .int .i64 k ∧ e = .int .i64 (expN ms k) ∧ Hid (RowT wx 47 lc ((lcCells n m).set 6 v)) ∧ Hid (wx.ownsRow (dl + 1) 39 9 v k (msgL n g ms (bs0 ms) (bc0 ms) (ow0 ms) k)) ∧ Hid (wx.ownsMap Ybaf.prog 3 (plainElem Ybaf.prog 4) dl k (delD ms k)) ∧ Hid (But [lc, dl] w4 wx)) (fun _ i _ => L - (intOf i).toNat)
          case atStart => exact ⟨0, _, Nat.zero_le _, rfl, rfl, HL4, World.ownsRow_nil _ _ _ _, HD4, But.refl _ _⟩
          case round =>
            obtain ⟨k, v, hk, rfl, rfl, hlr, hown, hdel, hbu⟩ := hrel
            clear HL4 HD4
            by_cases hlt : k < L
            · obtain ⟨b, o, rfl, hbl, hcs⟩ := hin.at_ (by omega)
              obtain ⟨u1, u2, u3, u4⟩ := hin.lt k hlt
              have HX := hide (HB4.out.trans ((hbu.out.below (B := w.heap.size) (by
                intro b hb
                simp only [List.mem_cons, List.not_mem_nil, or_false] at hb
                rcases hb with rfl | rfl
                · omega
                · have := HLC.out; omega) HB4.out.size)))
              have q0 : wr.cell? ⟨b, o + k * 6, none⟩ = some (.int .u8 (ms k).sd) := (HX.out.cell (p := ⟨b, o + k * 6, none⟩) hbl).trans (hcs k hlt 0 _ rfl)
              have q1 : wr.cell? ⟨b, o + k * 6 + 1, none⟩ = some (.int .u8 (ms k).bs) := (HX.out.cell (p := ⟨b, o + k * 6 + 1, none⟩) hbl).trans (hcs k hlt 1 _ rfl)
              have q2 : wr.cell? ⟨b, o + k * 6 + 2, none⟩ = some (.int .u8 (ms k).bc) := (HX.out.cell (p := ⟨b, o + k * 6 + 2, none⟩) hbl).trans (hcs k hlt 2 _ rfl)
              have q3 : wr.cell? ⟨b, o + k * 6 + 3, none⟩ = some (.int .u8 (ms k).ow) := (HX.out.cell (p := ⟨b, o + k * 6 + 3, none⟩) hbl).trans (hcs k hlt 3 _ rfl)
              have q4 : wr.cell? ⟨b, o + k * 6 + 4, none⟩ = some (.bool (ms k).st) := (HX.out.cell (p := ⟨b, o + k * 6 + 4, none⟩) hbl).trans (hcs k hlt 4 _ rfl)
              have q5 : wr.cell? ⟨b, o + k * 6 + 5, none⟩ = some (.bool (ms k).dl) := (HX.out.cell (p := ⟨b, o + k * 6 + 5, none⟩) hbl).trans (hcs k hlt 5 _ rfl)
              clear hcs
              have hvb : ∀ q, v.ownBlock = some q → lc < q ∧ q < wr.heap.size := by
                intro q hq
                have h1 := own_base hown.out q hq
                have h2 := (hown.out.lt q hq).2
                have h3 := HLC.out
                exact ⟨by omega, h2⟩
              have hl2 : lc < wr.heap.size := hlr.out.lt
              go_wp2_with fail
              obtain ⟨P, hPE⟩ : ∃ P, wr.heap.size = P := ⟨_, rfl⟩
              obtain ⟨wq, hwq⟩ : ∃ wq, wr.alloc (.cells #[.int .u8 (ms k).sd, .int .u8 (ms k).bs, .int .u8 (ms k).bc, .int .u8 (ms k).ow, .bool (ms k).st, .bool (ms k).dl] 37) = wq := ⟨_, rfl⟩
              have hqg : wr.grownBy wq none := by rw [← hwq]; exact World.grownBy_alloc wr _ none
              have hqP : RowT wq 37 P (msgIn (ms k)) := by rw [← hwq, ← hPE]; exact heap_new wr _
              have hqs : wq.heap.size = P + 1 := by rw [← hwq, ← hPE]; simp
              have hqo : wq.ownsRow _ 39 9 v k _ := hown.out.kept hqg (by cases v.ownBlock <;> simp)
              rw [hwq, hPE]
              have hql := hlr.out.kept hqg (by simp)
              have hqd := hdel.out.kept hqg (by simp)
              have hqb := hbu.out.after hqg (fun g e => by cases e)
              rw [hPE] at hvb hl2
              clear hwq q0 q1 q2 q3 q4 q5 hown hlr hdel hbu hqg
              have HAT : Hid (At24 wq lc P n (ms k) v) := ⟨by rw [hql.cell 6]; rfl, hqP.cell 0, hqP.cell 1, hqP.cell 2, hqP.cell 3, hqP.cell 4, ⟨u1, u2, u3, u4⟩, by omega⟩
              have hfr := hql.frozen 6
              have hb39 : dl + 1 ≤ wq.heap.size := by have := hqb.size; rw [H4s.out] at this; exact this
              have hnev : some lc ≠ v.ownBlock := fun e => by have := (hvb lc e.symm).1; omega
              have HVB := hide hvb
              have hell := expN_le ms L (fun i hi => (hin.lt i hi).2.2.2) k hk
              refine region24 (g := g) (k := k) (base := dl + 1) (by kernel_rfl) HAT.out (by simp) rfl rfl rfl rfl hqo hb39 (by omega) hfr hnev ?_
              intro g1 cap1 w1 hown1 hgrow1
              obtain ⟨s1, hs1⟩ : ∃ s1, s1 = Value.slice (some ⟨g1, 0, none⟩) (k + 1) cap1 := ⟨_, rfl⟩
              rw [← hs1] at hown1
              have hga : wq.grownBy (wq.alloc (.cells (msgC n g (ms k) (ms k).bs (ms k).bc (ms k).ow).toArray 39)) none := World.grownBy_alloc wq _ none
              have r1 := (hql.kept hga (by simp)).kept hgrow1 hnev
              have r2 := (hqP.kept hga (by simp)).kept hgrow1 (fun e => by have := (HVB.out P e.symm).2; omega)
              have hdd : ∀ q, v.ownBlock = some q → dl < q := fun q e => by have := own_base hqo q e; omega
              have r3 := (hqd.kept hga (by simp)).kept hgrow1 (fun e => by have := hdd dl e.symm; omega)
              have gs := grownBy_setCell w1 lc 6 s1
              have HR1 : Hid (RowT (w1.setCell ⟨lc, 6, none⟩ s1) 47 lc ((lcCells n m).set 6 s1)) := by
                have := r1.set 6 s1
                rwa [List.set_set] at this
              have r2' := r2.kept gs (by simp; omega)
              have p3 : (w1.setCell ⟨lc, 6, none⟩ s1).cell? ⟨P, 3, none⟩ = some (.int .u8 (ms k).ow) := r2'.cell 3
              have p5 : (w1.setCell ⟨lc, 6, none⟩ s1).cell? ⟨P, 5, none⟩ = some (.bool (ms k).dl) := r2'.cell 5
              have HD3 := hide (r3.kept gs (by have := HLC.out; simp; omega))
              have HO3 : Hid ((w1.setCell ⟨lc, 6, none⟩ s1).ownsRow (dl + 1) 39 9 s1 (k + 1) (msgL n g ms (bs0 ms) (bc0 ms) (ow0 ms) (k + 1))) := by
                rw [msgL_succ]
                refine hown1.kept gs ?_
                rw [hs1]
                refine .inr (fun e => ?_)
                have h1 := own_base hown1 g1 (by rw [hs1]; rfl)
                have h2 := HLC.out
                have h3 : g1 = lc := by simpa [Value.ownBlock] using e
                omega
              have HB3 : Hid (But [lc, dl] w4 (w1.setCell ⟨lc, 6, none⟩ s1)) := ((hqb.after hga (fun g e => by cases e)).after hgrow1 (fun q e => .inr (by have := own_base hqo q e; rw [H4s.out]; exact this))).after gs (fun q e => by cases e; simp)
              obtain ⟨w5, hw5⟩ : ∃ w5, w1.setCell ⟨lc, 6, none⟩ s1 = w5 := ⟨_, rfl⟩
              have hP5 : P < w5.heap.size := by rw [← hw5]; exact r2'.lt
              rw [← hs1, hw5]
              rw [hw5] at HR1 HD3 HO3 HB3 p3 p5
              clear hown1 hgrow1 hga r1 r2 r2' r3 gs hdd hw5 hqo hqb hql hqP hqd hvb HVB hs1 HAT hfr
              simp only [List.range, List.range.loop, List.map, putL, w24, v24]
              go_frame
              cases hd : (ms k).dl with
              | false =>
                rw [hd] at p5
                go_wp2_with fail
                go_roundw
                case rel => exact ⟨k + 1, s1, by omega, by go_num, by rw [expN]; go_num, HR1, HO3, by rw [delD, hd]; exact HD3.out.mono (by omega), HB3⟩
                case measure => simp [intOf]; omega
              | true =>
                rw [hd] at p5
                go_wp2_with (at_mapUpdate; refine wpList_mapUpdate_own _ rfl _ _ _ 63 rfl 3 4 Ybaf.law3 Ybaf.underlying63 _ dl k _ rfl HD3.out (by unfold maxLen; omega) _ _ _ rfl rfl (keyOf_int_mk Ybaf.underlying3 (WalkArith.wf_i64 (by omega))) _ [] (plainElem_bool Ybaf.underlying4 true) ?_; intro w6 ho6 hg6)
                have hll : lc ≠ dl := by have := HLC.out; omega
                have HR6 := hide (HR1.out.kept hg6 (by simpa using hll))
                have HO6 := hide (HO3.out.kept hg6 (.inr (fun e => by have := own_base HO3.out dl e; omega)))
                have HB6 : Hid (But [lc, dl] w4 w6) := HB3.out.after hg6 (fun q e => by cases e; simp)
                have HD6 : Hid (w6.ownsMap Ybaf.prog 3 (plainElem Ybaf.prog 4) dl (k + 1) (delD ms (k + 1))) := by rw [delD, hd]; exact ho6
                clear ho6 hg6
                go_roundw
                case rel => exact ⟨k + 1, s1, by omega, by go_num, by rw [expN]; go_num, HR6, HO6, HD6, HB6⟩
                case measure => simp [intOf]; omega
            · obtain rfl : L = k := by omega
              clear hlt hk
              have c11 : wr.cell? ⟨lc, 11, none⟩ = some (.int .i64 0) := by rw [hlr.out.cell 11]; rfl
              have f11 := hlr.out.frozen 11
              have hlcd := HLC.out
              have gs := grownBy_setCell wr lc 11 (.int .i64 (expN ms L))
              have hlr5 := hlr.out.set 11 (.int .i64 (expN ms L))
              have hown5 := hown.out.kept gs (.inr (fun e => by have := own_base hown.out lc e; omega))
              have hdel5 := hdel.out.kept gs (by simp; omega)
              have hcr5 := (hbu.out.row HC4.out (by simp; omega)).kept gs (by simp; omega)
              have hpr5 := (hbu.out.map HP4.out (by simp; omega)).kept gs (by simp; omega)
              have hg5 : But ([m 4, m 6] ++ [lc, dl]) w2 (wr.setCell ⟨lc, 11, none⟩ (.int .i64 (expN ms L))) := (H24.out.comp hbu.out).next gs (fun q e => by cases e; simp)
              have hbk5 : Below w.heap.size w (wr.setCell ⟨lc, 11, none⟩ (.int .i64 (expN ms L))) := (HB4.out.trans (hbu.out.below (B := w.heap.size) (by
                intro b hb
                simp only [List.mem_cons, List.not_mem_nil, or_false] at hb
                rcases hb with rfl | rfl <;> omega) HB4.out.size)).grown gs (Nat.le_trans HB4.out.size hbu.out.size) (fun q e => by cases e; omega)
              have l0 := (HM.out.le 0 rfl).2
              have l8 := (HM.out.le 8 rfl).2
              have l10 := (HM.out.le 10 rfl).2
              have l11 := (HM.out.le 11 rfl).2
              have i04 := HM.out.inj 0 4 rfl rfl (by omega)
              have i06 := HM.out.inj 0 6 rfl rfl (by omega)
              have i84 := HM.out.inj 8 4 rfl rfl (by omega)
              have i86 := HM.out.inj 8 6 rfl rfl (by omega)
              have i104 := HM.out.inj 10 4 rfl rfl (by omega)
              have i106 := HM.out.inj 10 6 rfl rfl (by omega)
              have i114 := HM.out.inj 11 4 rfl rfl (by omega)
              have i116 := HM.out.inj 11 6 rfl rfl (by omega)
              have hno5 := hg5.map HM.out.nodes (by simp; omega)
              have hgl := HGR.out.lt
              have hdw := HDW.out
              have hgS := HGS.out
              have s9 : ∀ b ∈ [m 4, m 6] ++ [lc, dl], ∀ cur : Array Value, w2.heap[b]? ≠ some (Obj.cells cur 9 (0, 0)) := by
                intro b hb cur e
                simp only [List.cons_append, List.nil_append, List.mem_cons, List.not_mem_nil, or_false] at hb
                rcases hb with rfl | rfl | rfl | rfl
                · obtain ⟨es, cl, hm, _⟩ := HM.out.procs
                  rw [hm] at e; cases e
                · have := HM.out.crashed
                  unfold RowT at this
                  rw [this] at e; cases e
                · have := HM.out.row
                  unfold RowT at this
                  rw [this] at e; cases e
                · have := (Array.getElem?_eq_some_iff.1 e).1
                  omega
              have HF : Hid (FiveM w.heap.size n mm cm L ms (wr.setCell ⟨lc, 11, none⟩ (.int .i64 (expN ms L))) lc g m ao mc dl v) := ⟨hlr5, ⟨hown5.1, hown5.2.imp id (fun ⟨g', cap', cur, a1, a2, a3⟩ => ⟨g', cap', cur, a1, by omega, a3⟩)⟩, hg5.row HGR.out (by simp at hgS ⊢; omega), owns_weaken (own_kept HME.out fun b cur hb => hg5.block b (Array.getElem?_eq_some_iff.1 hb).1 (fun e => s9 b e cur hb)), hg5.map HM.out.groups (by simp; omega), hpr5, hno5, hcr5, hg5.row HM.out.stopped (by simp; omega), hg5.row HM.out.last (by simp; omega), hdel5, HM.out.inj 0 11 rfl rfl (by omega), HM.out.inj 4 11 rfl rfl (by omega), by omega, HM.out.inj 6 8 rfl rfl (by omega), HM.out.inj 6 10 rfl rfl (by omega)⟩
              have h11 := (HM.out.le 11 rfl).1
              have H11 : Hid (w.heap.size ≤ m 11) := by show _ ≤ _; simp at h11; omega
              have HLE : Hid (w.heap.size ≤ lc ∧ w.heap.size ≤ g ∧ w.heap.size ≤ m 6) := ⟨by omega, hgw, by omega⟩
              clear hown5 hdel5 hcr5 hpr5 s9 gs i04 i06 i84 i86 i104 i106 i114 i116 l0 l8 l10 h11 hgS hlcd hlr hown hdel hbu
              go_wp2_with fail
              generalize wr.setCell ⟨lc, 11, none⟩ (.int .i64 (expN ms L)) = w5 at *
              have c5 : w5.cell? ⟨lc, 5, none⟩ = some (.map (some (m 11))) := hlr5.cell 5
              have hi2 := HIDS.out t ht
              have hid : w5.cell? ⟨w.heap.size, t, none⟩ = some (.string (idB t)) := (World.cell?_of_block (hg5.block w.heap.size (World.block_lt_of_cell? w2 _ hi2) (by simp; omega))).trans hi2
              have hszl : lc < w5.heap.size := hlr5.lt
              have hszi : w.heap.size < w5.heap.size := World.block_lt_of_cell? w5 _ hid
              clear hi2
              obtain ⟨wA, hrA, hoA, hgA⟩ := ((((hno5.alloc (.map #[] 0)).alloc (.map #[] 0)).alloc (.cells #[.string (idB t), .int .i64 t, .slice none 0 0, .int .i64 0, .int .u64 0, .map (some dl), .int .u64 1, .map (some w5.heap.size), .map (some (w5.heap.size + 1))] 68)).drew).update Ybaf.law9 Ybaf.underlying42 (by unfold maxLen; omega) (key := .string (idB t)) (val := .pointer (some ⟨w5.heap.size + 2, 0, none⟩)) (idB_key t) (d := .lit (.int .i64 ((w5.heap.size + 2 : Nat) : Int))) (ps := []) rfl
              obtain ⟨wB, hrB, hoB, hgB⟩ := ((((hno5.alloc (.map #[] 0)).alloc (.map #[] 0)).alloc (.cells #[.string (idB t), .int .i64 t, .slice none 0 0, .int .i64 0, .int .u64 0, .map (some dl), .int .u64 1, .map (some (w5.heap.size + 1)), .map (some w5.heap.size)] 68)).drew).update Ybaf.law9 Ybaf.underlying42 (by unfold maxLen; omega) (key := .string (idB t)) (val := .pointer (some ⟨w5.heap.size + 2, 0, none⟩)) (idB_key t) (d := .lit (.int .i64 ((w5.heap.size + 2 : Nat) : Int))) (ps := []) rfl
              have n1 : (w5.alloc (.map #[] 0)).cell? ⟨w.heap.size, t, none⟩ = some (.string (idB t)) := cell_old hid
              have n2 := cell_old (o := .map #[] 0) n1
              have n3 := cell_old (o := .cells #[.string (idB t), .int .i64 t, .slice none 0 0, .int .i64 0, .int .u64 0, .map (some dl), .int .u64 1, .map (some w5.heap.size), .map (some (w5.heap.size + 1))] 68) n2
              have n4 := cell_old (o := .cells #[.string (idB t), .int .i64 t, .slice none 0 0, .int .i64 0, .int .u64 0, .map (some dl), .int .u64 1, .map (some (w5.heap.size + 1)), .map (some w5.heap.size)] 68) n2
              have q1 : (w5.alloc (.map #[] 0)).cell? ⟨lc, 5, none⟩ = some (.map (some (m 11))) := cell_old c5
              have q2 := cell_old (o := .map #[] 0) q1
              have q3 := cell_old (o := .cells #[.string (idB t), .int .i64 t, .slice none 0 0, .int .i64 0, .int .u64 0, .map (some dl), .int .u64 1, .map (some w5.heap.size), .map (some (w5.heap.size + 1))] 68) q2
              have q4 := cell_old (o := .cells #[.string (idB t), .int .i64 t, .slice none 0 0, .int .i64 0, .int .u64 0, .map (some dl), .int .u64 1, .map (some (w5.heap.size + 1)), .map (some w5.heap.size)] 68) q2
              have BA : Hid (Below w.heap.size w wA) := Below.grown (row := some (m 11)) ((((hbk5.alloc (by omega) _).alloc (by simp; omega) _).alloc (by simp; omega) _).drew) hgA (by simp; omega) (fun k e => by cases e; exact H11.out)
              have BB : Hid (Below w.heap.size w wB) := Below.grown (row := some (m 11)) ((((hbk5.alloc (by omega) _).alloc (by simp; omega) _).alloc (by simp; omega) _).drew) hgB (by simp; omega) (fun k e => by cases e; exact H11.out)
              have FA := hide (HF.out.built (t := t) HLE.out hoA hgA)
              have FB := hide (HF.out.built (t := t) HLE.out hoB hgB)
              clear hoA hgA hoB hgB hg5 hlr5 hno5 c11 f11 HF hbk5
              go_region
              · go_wp2_with fail
                refine bodyPost_ret (v := .tuple #[.pointer (some ⟨lc, 0, none⟩), .pointer (some ⟨g, 0, none⟩), .int .i64 (expN ms L)]) ?res rfl ⟨lc, g, m, ao, mc, _, _, _, rfl, BA.out, FA.out⟩
                case res => simp [results, Ybaf.results7, go_sem]
              · go_wp2_with fail
                refine bodyPost_ret (v := .tuple #[.pointer (some ⟨lc, 0, none⟩), .pointer (some ⟨g, 0, none⟩), .int .i64 (expN ms L)]) ?res rfl ⟨lc, g, m, ao, mc, _, _, _, rfl, BB.out, FB.out⟩
                case res => simp [results, Ybaf.results7, go_sem]

end Go.Proofs.YbulkczjkFmt
