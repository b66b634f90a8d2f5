/-
  (*LogChecker).crash: walked, messages and all.
-/
import Derived.Test.YbulkczjkFmtAfterM
namespace Go.Proofs.YbulkczjkFmt
open Go.RowKit Go.Maps

set_option maxRecDepth 100000 in
set_option maxHeartbeats 3200000 in
theorem crashM_any (B n mm cm t L : Nat) (ms : Nat → Msg) (w : World) (lc g : Nat) (m : Nat → Nat) (ao : Option Addr) (mc nd dl : Nat) (va : Option Addr) (vc : Nat) (hn : n ≤ 4) (ht : t < n) (hL : L ≤ 300) (hms : ∀ i, i < L → (ms i).sd < 256 ∧ (ms i).bs < 256 ∧ (ms i).bc < 256 ∧ (ms i).ow < 256) (hbit : bitN cm t = false) (h : BuiltM B n mm cm t L ms w lc g m ao mc nd dl (.slice va L vc)) :
    Calls Ybaf.prog 13 #[.pointer (some ⟨lc, 0, none⟩), .string (idB t)] w fun e w' => e = .returned (.tuple #[]) ∧
      AfterM B n mm cm t L ms (bsF ms) (bcF ms (bitN mm t)) (owF n mm cm t ms) ((expN ms L : Int) + dN n mm cm t ms L) (svN mm cm n t false) w w' lc g m ao mc va vc := by
  have hQ := h.place
  obtain ⟨q, hBq, nqg, nql, nq6, nqd, nq8, nq10, hq⟩ := hQ
  obtain ⟨c, hrun, hat, hwc⟩ := h.procs.lookup_int Ybaf.law9 Ybaf.underlying41 Ybaf.underlying3 (Ybaf.zeroValue3 _) (idB_key t)
  rw [proc_at n hn t ht] at hat
  obtain rfl : c = (t : Int) := by simpa using hat.symm
  have c1 : w.cell? ⟨lc, 1, none⟩ = some (.map (some (m 4))) := h.row.cell 1
  have c2 : w.cell? ⟨lc, 2, none⟩ = some (.slice (some ⟨m 6, 0, none⟩) n n) := h.row.cell 2
  have c3 : w.cell? ⟨m 6, t, none⟩ = some (.bool false) := by rw [h.crashed.cell t]; simp [crL, ht, hbit]
  have f3 := h.crashed.frozen t
  have c0 : w.cell? ⟨lc, 0, none⟩ = some (.map (some (m 0))) := h.row.cell 0
  have hne6 : m 6 ≠ lc := h.crashed.ne h.row (by decide)
  have hng : m 6 ≠ g := h.crashed.ne h.grp (by decide)
  have gS := grownBy_setCell w (m 6) t (.bool true)
  have HS6 : Hid (RowT (w.setCell ⟨m 6, t, none⟩ (.bool true)) 4 (m 6) ((crL cm n n).set t (.bool true))) := h.crashed.set _ _
  have HSl : Hid (RowT (w.setCell ⟨m 6, t, none⟩ (.bool true)) 47 lc (((lcCells n m).set 6 (.slice va L vc)).set 11 (.int .i64 (expN ms L)))) := h.row.kept gS (by simpa using Ne.symm hne6)
  have HSg : Hid (RowT (w.setCell ⟨m 6, t, none⟩ (.bool true)) 30 g [.slice ao (memN mm n).length mc, .int .i64 (survN mm cm n)]) := h.grp.kept gS (by simpa using Ne.symm hng)
  have nm : ∀ {H : Type} {k b q : Nat} {R : Value → Option (DataW H × List MemPlace)} {D : DataW H}, w.ownsMap Ybaf.prog k R b q D → some b ≠ some (m 6) := fun ho e => h.crashed.neMap ho (by simpa using e.symm)
  have HSG : Hid ((w.setCell ⟨m 6, t, none⟩ (.bool true)).ownsMap Ybaf.prog 9 ptrElem (m 0) 1 (dG g)) := h.groups.kept gS (nm h.groups)
  have HSN := hide (h.nodes.kept gS (nm h.nodes))
  have HSD := hide (h.deliv.kept gS (nm h.deliv))
  have HSM : Hid ((w.setCell ⟨m 6, t, none⟩ (.bool true)).ownsRow 0 9 1 (.slice ao (memN mm n).length mc) (memN mm n).length (memV mm n)) := own_kept h.mem fun b cur hb => gS.block b (Array.getElem?_eq_some_iff.1 hb).1 (fun e => by
    have := h.crashed
    unfold RowT at this
    rw [Option.some.inj e, this] at hb
    cases hb)
  have HQ : Hid (0 < L → va = some ⟨q, 0, none⟩ ∧ q < w.heap.size ∧ RowM (w.setCell ⟨m 6, t, none⟩ (.bool true)) q vc L (msgL n g ms (bs0 ms) (bc0 ms) (ow0 ms) L)) := fun h0 => ⟨(hq h0).1, (hq h0).2.1, (hq h0).2.2.kept gS (by simpa using nq6)⟩
  have HS8 := hide (h.stopped.kept gS (by simpa using Ne.symm h.ne.1))
  have HS10 := hide (h.last.kept gS (by simpa using Ne.symm h.ne.2))
  have ngl : g ≠ lc := h.grp.ne h.row (by decide)
  have hBle := h.le
  have hBw : B ≤ w.heap.size := by have := h.row.lt; omega
  have hn0 : 0 < n := by omega
  obtain ⟨x, y, hnode⟩ := h.node
  have HSO := hide (hnode.kept gS (by simpa using hnode.ne h.crashed (by decide)))
  have HSB : Hid (But [m 6, g] w (w.setCell ⟨m 6, t, none⟩ (.bool true))) := (But.refl _ w).next gS (fun g e => by cases e; simp)
  have hsl : lc < w.heap.size := h.row.lt
  clear h hat hwc gS hnode nm hq
  go_enter Ybaf.func13, Ybaf.ntmps13
  go_wp2_with (at_range; refine wpList_range_own _ rfl _ 40 rfl 9 26 Ybaf.law9 Ybaf.underlying40 ptrElem (m 0) 1 (dG g) rfl HSG.out ?_; intro w0 hrg0 hg0 hs0)
  go_frame
  generalize w.setCell ⟨m 6, t, none⟩ (.bool true) = wS at *
  have hb0 : But [g] wS w0 := (But.refl _ wS).after hg0 (fun g e => by cases e)
  have HG0 : Hid (RowT w0 30 g [.slice ao (memN mm n).length mc, .int .i64 (svN mm cm n t true)]) := by
    have := HSg.out.kept hg0 (by simp)
    rw [sv_on]
    exact this
  have HB0 := hide hb0
  have HR0 := hide hrg0
  clear hb0 hrg0 hg0 c1 c2 c3 f3 c0 hs0
  go_loopw [6] (fun _ wr => ∃ (left : Lit → Bool) (cnt : Nat), Hid (wr.ranges Ybaf.prog 9 ptrElem (m 0) wS.heap.size 1 (dG g) left cnt) ∧ Hid (RowT wr 30 g [.slice ao (memN mm n).length mc, .int .i64 (svN mm cm n t (left kG))]) ∧ Hid (But [g] wS wr)) (fun _ wr => wr.rangeLeft (m 0) wS.heap.size)
  case atStart =>
    refine ⟨_, _, HR0, ?_, HB0⟩
    have : Maps.has (dG g) kG = true := by rw [dG_eq]; rfl
    rw [this]
    exact HG0
  case round =>
    obtain ⟨left, cnt, hrg, hgr, hbu⟩ := hrel
    clear HG0 HB0 HR0
    go_wp2_with (at_next; refine wpList_next_ranges _ rfl _ rfl 9 Ybaf.law9 ptrElem Value.string ptrV strK_inv ptrV_inv (m 0) wS.heap.size 1 _ _ _ rfl hrg.out ?_ ?_)
    · intro hc0 hl0
      have hgl : lc ≠ g := HSl.out.ne HSg.out (by decide)
      have hlr := hbu.out.row HSl.out (by simpa using hgl)
      have c5 : wr.cell? ⟨lc, 5, none⟩ = some (.map (some (m 11))) := hlr.cell 5
      have c6 : wr.cell? ⟨lc, 6, none⟩ = some (.slice va L vc) := hlr.cell 6
      have hnn : m 11 ∉ [g] := by have := HSg.out.neMap HSN.out; simp; omega
      have hnd : dl ∉ [g] := by have := HSg.out.neMap HSD.out; simp; omega
      obtain ⟨v, ps, hrn, hRv⟩ := (hbu.out.map HSN.out hnn).lookup Ybaf.law9 Ybaf.underlying42 (Ybaf.zeroValue64 _) (zd := .lit (.bool false)) (zp := []) rfl (idB_key t)
      rw [Maps.atKey_put_same (D := DataW.map []) (k := Lit.string (idB t).data.toList) ⟨_, rfl⟩ trivial] at hRv
      obtain rfl := ptrElem_inv hRv
      have HDL := hide (hbu.out.map HSD.out hnd)
      have hno : nd ∉ [g] := by have := HSO.out.ne HSg.out (by decide); simpa using this
      have c7 : wr.cell? ⟨nd, 5, none⟩ = some (.map (some dl)) := (hbu.out.row HSO.out hno).cell 5
      have hlk0 : left kG = false := hl0 kG
      rw [hlk0] at hgr
      have HQ2 : Hid (0 < L → va = some ⟨q, 0, none⟩ ∧ q < wr.heap.size ∧ RowM wr q vc L (msgL n g ms (bs0 ms) (bc0 ms) (ow0 ms) L)) := by
        intro h0
        obtain ⟨e, hlt, cur, a3, a4⟩ := HQ.out h0
        have hlt := (Array.getElem?_eq_some_iff.1 a3).1
        exact ⟨e, Nat.lt_of_lt_of_le hlt hbu.out.size, cur, (hbu.out.block q hlt (by simpa using nqg)).trans a3, a4⟩
      have HL := hide hlr
      have HM := hide (hbu.out.own HSM.out (by
        intro b hb cur e
        simp at hb
        subst hb
        have := HSg.out
        unfold RowT at this
        rw [this] at e
        cases e))
      have H6 := hide (hbu.out.row HS6.out (by simpa using hng))
      have H8 := hide (hbu.out.row HS8.out (by have := HS8.out.ne HSg.out (by decide); simpa using this))
      have H10 := hide (hbu.out.row HS10.out (by have := HS10.out.ne HSg.out (by decide); simpa using this))
      have HBW := hide (HSB.out.join hbu.out (by simp))
      clear hRv hlr hgl hnn hnd hno hlk0 HSl HSg HSG HSN HSD HSM HS6 HS8 HS10 HSO HSB HQ hbu hrg hl0 hc0
      go_wp2_with (at_range; refine wpList_range_own _ rfl _ 63 rfl 3 4 Ybaf.law3 Ybaf.underlying63 (plainElem (H := Unit) Ybaf.prog 4) dl L (delD ms L) rfl HDL.out ?_; intro w2 hrg2 hg2 hs2)
      go_frame
      have HB2 : Hid (But [q] wr w2) := (But.refl _ wr).after hg2 (fun g e => by cases e)
      have HR2 := hide hrg2
      have HQ3 : Hid (0 < L → RowM w2 q vc L (msgL n g ms (bsL ms (Maps.has (delD ms L))) (bcL ms (bitN mm t) (Maps.has (delD ms L))) (ow0 ms) L)) := fun h0 => by
        rw [msgL_congr (bs' := bs0 ms) (bc' := bc0 ms) (ow' := ow0 ms) (fun i hi => ⟨bsL_start ms L i hi, bcL_start ms _ L i hi, rfl⟩)]
        exact (HQ2.out h0).2.2.kept hg2 (by simp)
      have HVA : Hid (0 < L → va = some ⟨q, 0, none⟩ ∧ q < wr.heap.size) := fun h0 => ⟨(HQ2.out h0).1, (HQ2.out h0).2.1⟩
      have HQ9 : Hid (0 < L → ∀ cur : Array Value, wr.heap[q]? ≠ some (Obj.cells cur 9 (0, 0))) := fun h0 cur e => by
        obtain ⟨cur', a3, _⟩ := (HQ2.out h0).2.2
        rw [a3] at e
        cases e
      clear hrg2 hg2 hs2 c5 c6 c7 hrn HQ2 HDL
      obtain ⟨P, hP⟩ : ∃ P, wr.heap.size = P := ⟨_, rfl⟩
      rw [hP] at HR2 HVA
      try rw [hP]
      have HP := hide hP
      clear hP
      obtain ⟨wa, hwa⟩ : ∃ wa, wa = wr := ⟨_, rfl⟩
      subst hwa
      go_loopw [8] (fun _ wx => ∃ (left : Lit → Bool) (cnt : Nat), Hid (wx.ranges Ybaf.prog 3 (plainElem (H := Unit) Ybaf.prog 4) dl P L (delD ms L) left cnt) ∧ Hid (∀ kl, left kl = true → Maps.has (delD ms L) kl = true) ∧ Hid (0 < L → RowM wx q vc L (msgL n g ms (bsL ms left) (bcL ms (bitN mm t) left) (ow0 ms) L)) ∧ Hid (But [q] wa wx)) (fun _ wx => wx.rangeLeft dl P)
      case atStart => exact ⟨_, _, HR2, fun _ h => h, HQ3, HB2⟩
      case round =>
        obtain ⟨left, cnt, hrg, hhas, hrow, hbu⟩ := hrel
        clear HR2 HQ3 HB2
        go_wp2_with (at_next; refine wpList_next_ranges _ rfl _ rfl 3 Ybaf.law3 (plainElem (H := Unit) Ybaf.prog 4) (Value.int .i64) (fun v : Value => v) intK_inv (fun v _ _ => ⟨v, rfl⟩) dl P L _ _ _ rfl hrg.out ?_ ?_)
        · intro hc0 hl0
          have HL3 := hide (hbu.out.row HL.out (by simpa using Ne.symm nql))
          have HG3 := hide (hbu.out.row hgr.out (by simpa using Ne.symm nqg))
          have H63 := hide (hbu.out.row H6.out (by simpa using Ne.symm nq6))
          have H83 := hide (hbu.out.row H8.out (by simpa using Ne.symm nq8))
          have H103 := hide (hbu.out.row H10.out (by simpa using Ne.symm nq10))
          have HQ4 : Hid (0 < L → RowM wr q vc L (msgL n g ms (bsF ms) (bcF ms (bitN mm t)) (owK n mm cm t ms 0) L)) := fun h0 => by
            rw [msgL_congr (bs' := bsL ms left) (bc' := bcL ms (bitN mm t) left) (ow' := ow0 ms) (fun i hi => ⟨(bsL_end ms left hl0 i).symm, (bcL_end ms _ left hl0 i).symm, owK_zero _ _ _ _ _ _⟩)]
            exact hrow.out h0
          have HBW3 : Hid (But [m 6, g, lc, q] w wr) := (HBW.out.more (fun x hx => by simp at hx ⊢; omega)).join hbu.out (by simp)
          have c6 : wr.cell? ⟨lc, 6, none⟩ = some (.slice va L vc) := HL3.out.cell 6
          clear hrg hhas hrow hbu HL hgr H6 H8 H10 HBW HM hl0 hc0
          go_wp2_with fail
          obtain ⟨wb, hwb⟩ : ∃ wb, wb = wr := ⟨_, rfl⟩
          subst hwb
          clear c6
          go_loopw [107] (fun i wx => ∃ k : Nat, k ≤ L ∧ i = .int .i64 k ∧ Hid (0 < L → RowM wx q vc L (msgL n g ms (bsF ms) (bcF ms (bitN mm t)) (owK n mm cm t ms k) L)) ∧ Hid (RowT wx 47 lc (((lcCells n m).set 6 (.slice va L vc)).set 11 (.int .i64 ((expN ms L : Int) + dN n mm cm t ms k)))) ∧ Hid (But [lc, q] wb wx)) (fun i _ => L - (intOf i).toNat)
          case atStart => exact ⟨0, Nat.zero_le _, rfl, HQ4, by rw [show (expN ms L : Int) + dN n mm cm t ms 0 = (expN ms L : Int) by simp [dN]]; exact HL3, But.refl _ _⟩
          case round =>
            obtain ⟨k, hk, rfl, hrow, hlr, hbu⟩ := hrel
            have c6 : wr.cell? ⟨lc, 6, none⟩ = some (.slice va L vc) := hlr.out.cell 6
            by_cases hlt : k < L
            · have h0 : 0 < L := by omega
              obtain ⟨rfl, hqP⟩ := HVA.out h0
              obtain ⟨u1, u2, u3, u4⟩ := hms k hlt
              have hr := hrow.out h0
              have m1 : wr.cell? ⟨q, k * 9 + 1, none⟩ = some (.bool (ms k).st) := by rw [hr.cell _ (by omega), msgL_at _ _ _ _ _ _ L k 1 hlt (by omega)]; rfl
              have HR := hide hr
              clear hr
              cases hst : (ms k).st with
              | false =>
                rw [hst] at m1
                go_wp2_with fail
                go_roundw
                case rel => exact ⟨k + 1, by omega, by go_num, fun _ => by rw [msgL_congr (fun i _ => ⟨rfl, rfl, owK_off n mm cm t k ms hst i⟩)]; exact HR.out, by rw [dN_off _ _ _ _ _ _ hst]; exact hlr, hbu⟩
                case measure => simp [intOf]; omega
              | true =>
                rw [hst] at m1
                have hoF : owN (crA cm t ((ms k).sd % n)) (bsF ms k) (bcF ms (bitN mm t) k) (svN mm cm n t false) = owF n mm cm t ms k := by simp [owF, hst]
                have x1 := sv_le mm cm n t false hn
                have x2 := bsF_le ms k u2
                have x3 := bcF_le ms (bitN mm t) k u3
                have x4 := dN_le n mm cm t L ms hn (fun i hi => ⟨(hms i hi).2.2.1, (hms i hi).2.2.2⟩) k hk
                have x5 := expN_le ms L (fun i hi => (hms i hi).2.2.2) L (Nat.le_refl _)
                have HRE := hide (recount_any wr lc q vc L k g (m 6) n ((ms k).sd % n) (crA cm t ((ms k).sd % n)) (ow0 ms k) (bsF ms k) (bcF ms (bitN mm t) k) (svN mm cm n t false) ((expN ms L : Int) + dN n mm cm t ms k) hlt hL (Nat.mod_lt _ hn0) hn (by unfold ow0; omega) (by omega) (by omega) (by omega) (by omega)
                  ⟨hlr.out.cell 6, hlr.out.cell 2, hlr.out.cell 11, hlr.out.frozen 11,
                   by rw [HR.out.cell _ (by omega), msgL_at _ _ _ _ _ _ L k 2 hlt (by omega)]; rfl,
                   by rw [HR.out.cell _ (by omega), msgL_at _ _ _ _ _ _ L k 3 hlt (by omega)]; rfl,
                   by rw [HR.out.cell _ (by omega), msgL_at _ _ _ _ _ _ L k 6 hlt (by omega)]; simp [msgC, owK],
                   HR.out.frozen _,
                   by rw [HR.out.cell _ (by omega), msgL_at _ _ _ _ _ _ L k 7 hlt (by omega)]; rfl,
                   by rw [HR.out.cell _ (by omega), msgL_at _ _ _ _ _ _ L k 8 hlt (by omega)]; rfl,
                   by rw [(hbu.out.row H63.out (by simp; omega)).cell]; exact crA_at cm n t _ (Nat.mod_lt _ hn0),
                   (hbu.out.row HG3.out (by simp; omega)).cell 1, nql⟩)
                rw [hoF] at HRE
                clear x1 x2 x3 x4 x5
                go_wp2_with fail
                refine (HRE.out).mono ?_
                rintro e w5 ⟨rfl, d, rfl⟩
                have g1 := grownBy_setCell wr lc 11 (.int .i64 ((expN ms L : Int) + dN n mm cm t ms k + (owF n mm cm t ms k - ow0 ms k)))
                have g2 := grownBy_setCell (wr.setCell ⟨lc, 11, none⟩ (.int .i64 ((expN ms L : Int) + dN n mm cm t ms k + (owF n mm cm t ms k - ow0 ms k)))) q (k * 9 + 6) (.int .i64 (owF n mm cm t ms k))
                have HL5 : Hid (RowT (((wr.setCell ⟨lc, 11, none⟩ (.int .i64 ((expN ms L : Int) + dN n mm cm t ms k + (owF n mm cm t ms k - ow0 ms k)))).setCell ⟨q, k * 9 + 6, none⟩ (.int .i64 (owF n mm cm t ms k))).drewN d) 47 lc (((lcCells n m).set 6 (.slice (some ⟨q, 0, none⟩) L vc)).set 11 (.int .i64 ((expN ms L : Int) + dN n mm cm t ms (k + 1))))) := by
                  have h1 := (hlr.out.set 11 (.int .i64 ((expN ms L : Int) + dN n mm cm t ms k + (owF n mm cm t ms k - ow0 ms k)))).kept g2 (by simpa using Ne.symm nql)
                  rw [List.set_set, show (expN ms L : Int) + dN n mm cm t ms k + (owF n mm cm t ms k - ow0 ms k) = (expN ms L : Int) + dN n mm cm t ms (k + 1) by simp only [dN]; omega] at h1
                  rw [show (expN ms L : Int) + dN n mm cm t ms k + (owF n mm cm t ms k - ow0 ms k) = (expN ms L : Int) + dN n mm cm t ms (k + 1) by simp only [dN]; omega]
                  exact h1
                have HQ5 : Hid (RowM (((wr.setCell ⟨lc, 11, none⟩ (.int .i64 ((expN ms L : Int) + dN n mm cm t ms k + (owF n mm cm t ms k - ow0 ms k)))).setCell ⟨q, k * 9 + 6, none⟩ (.int .i64 (owF n mm cm t ms k))).drewN d) q vc L (msgL n g ms (bsF ms) (bcF ms (bitN mm t)) (owK n mm cm t ms (k + 1)) L)) := by
                  have h1 := (HR.out.kept g1 (by simpa using nql)).set (k * 9 + 6) (.int .i64 (owF n mm cm t ms k))
                  rw [msgL_ow _ _ _ _ _ _ L k _ hlt] at h1
                  rw [msgL_congr (fun i _ => ⟨rfl, rfl, owK_succ n mm cm t k ms i⟩)]
                  exact h1
                have HB5 : Hid (But [lc, q] wb (((wr.setCell ⟨lc, 11, none⟩ (.int .i64 ((expN ms L : Int) + dN n mm cm t ms k + (owF n mm cm t ms k - ow0 ms k)))).setCell ⟨q, k * 9 + 6, none⟩ (.int .i64 (owF n mm cm t ms k))).drewN d)) := by
                  have h1 := (hbu.out.next g1 (fun x e => by cases e; simp)).next g2 (fun x e => by cases e; simp)
                  exact ⟨h1.os, h1.tape, h1.output, h1.size, h1.block⟩
                generalize ((wr.setCell ⟨lc, 11, none⟩ (.int .i64 ((expN ms L : Int) + dN n mm cm t ms k + (owF n mm cm t ms k - ow0 ms k)))).setCell ⟨q, k * 9 + 6, none⟩ (.int .i64 (owF n mm cm t ms k))).drewN d = w6 at *
                clear g1 g2 HRE
                go_wp2_with fail
                go_roundw
                case rel => exact ⟨k + 1, by omega, by go_num, fun _ => HQ5.out, HL5, HB5⟩
                case measure => simp [intOf]; omega
            · obtain rfl : L = k := by omega
              go_wp2_with fail
              go_end0
              refine ⟨rfl, hlr.out, fun h0 => ⟨q, (HVA.out h0).1, ?_⟩, hbu.out.row HG3.out (by simp; omega), hbu.out.row H63.out (by simp; omega), hbu.out.row H83.out (by have := H83.out.ne HL3.out (by decide); simp; omega), hbu.out.row H103.out (by have := H103.out.ne HL3.out (by decide); simp; omega), ?_⟩
              · have := hrow.out h0
                rwa [msgL_congr (fun i hi => ⟨rfl, rfl, owK_end n mm cm t L ms i hi⟩)] at this
              · exact (HBW3.out.join hbu.out (by simp)).below (by
                  intro b hb
                  simp only [List.mem_cons, List.not_mem_nil, or_false] at hb
                  omega) hBw
        · intro x c kl y1 yp w1 cnt1 hkey hlk hR hat hrg1 hlt hg1 hs1 hen
          obtain ⟨i, hi, ekl0, hdl⟩ := del_key ms kl L (hhas.out kl hlk)
          subst ekl0
          obtain ⟨x', ex, ekl, _⟩ := Maps.keyOf_int_inv Ybaf.underlying3 hkey
          obtain rfl : x = (i : Int) := by cases ex; simpa using ekl.symm
          have h0 : 0 < L := by omega
          obtain ⟨rfl, hqP⟩ := HVA.out h0
          obtain ⟨u1, u2, u3, u4⟩ := hms i hi
          have hen' : (Instr.entry (.pointer (some ⟨P, 0, none⟩))).run Ybaf.prog w1 = .ok (.tuple #[.int .i64 i, c]) w1 := hen
          have hr1 := (hrow.out h0).kept hg1 (by simp; omega)
          have hbu1 : But [q] wa w1 := hbu.out.after hg1 (fun k e => by cases e; exact .inr (Nat.le_of_eq HP.out))
          have c6 : w1.cell? ⟨lc, 6, none⟩ = some (.slice (some ⟨q, 0, none⟩) L vc) := (hbu1.row HL.out (by simpa using Ne.symm nql)).cell 6
          have m1 : w1.cell? ⟨q, i * 9 + 1, none⟩ = some (.bool (ms i).st) := by rw [hr1.cell _ (by omega), msgL_at _ _ _ _ _ _ L i 1 hi (by omega)]; rfl
          have HH : Hid (∀ kl, (left kl && !kl.sameKey (.int .i64 (i : Int))) = true → Maps.has (delD ms L) kl = true) := fun kl h => hhas.out kl (by simp at h; exact h.1)
          have y2 := bsL_le ms left i u2
          have y3 := bcL_le ms (bitN mm t) left i u3
          have HR1 := hide hrg1
          cases hst : (ms i).st with
          | false =>
            rw [hst] at m1
            have HQ1 : Hid (RowM w1 q vc L (msgL n g ms (bsL ms (fun z => left z && !z.sameKey (.int .i64 (i : Int)))) (bcL ms (bitN mm t) (fun z => left z && !z.sameKey (.int .i64 (i : Int)))) (ow0 ms) L)) := by
              rw [msgL_congr (fun j _ => ⟨bsL_off ms left i (by simp [hitB, hst]) j, bcL_off ms _ left i (by simp [hitB, hst]) j, rfl⟩)]
              exact hr1
            have HB1 := hide hbu1
            clear hr1 hbu1 hrg1 hen hR hat hkey ekl hg1 hs1
            go_wp2_with fail
            go_roundw
            case rel => exact ⟨_, cnt1, HR1, HH, fun _ => HQ1.out, HB1⟩
            case measure => rw [HR1.out.left_eq, hrg.out.left_eq]; omega
          | true =>
            rw [hst] at m1
            have hhit : hitB ms i = true := by simp [hitB, hst, hdl]
            have m7 : w1.cell? ⟨q, i * 9 + 7, none⟩ = some (.int .i64 (bsL ms left i)) := by rw [hr1.cell _ (by omega), msgL_at _ _ _ _ _ _ L i 7 hi (by omega)]; rfl
            have f7 := hr1.frozen (i * 9 + 7)
            have gs := grownBy_setCell w1 q (i * 9 + 7) (.int .i64 (bsL ms left i - 1))
            have hbu2 : But [q] wa (w1.setCell ⟨q, i * 9 + 7, none⟩ (.int .i64 (bsL ms left i - 1))) := hbu1.after gs (fun k e => by cases e; simp)
            have hr2 : RowM (w1.setCell ⟨q, i * 9 + 7, none⟩ (.int .i64 (bsL ms left i - 1))) q vc L (msgL n g ms (at1 (bsL ms left) i (bsL ms left i - 1)) (bcL ms (bitN mm t) left) (ow0 ms) L) := by
              have := hr1.set (i * 9 + 7) (.int .i64 (bsL ms left i - 1))
              rwa [msgL_bs _ _ _ _ _ _ L i _ hi] at this
            have hmem2 := hbu2.own HM.out (by
              intro b hb cur e
              simp at hb
              subst hb
              exact absurd e (HQ9.out h0 cur))
            have HMB := member_any mm n t ao mc hn (by omega) _ hmem2
            rw [show (decide (t < n) && bitN mm t) = bitN mm t by simp [ht]] at HMB
            have HMB := hide HMB
            have g0 : (w1.setCell ⟨q, i * 9 + 7, none⟩ (.int .i64 (bsL ms left i - 1))).cell? ⟨g, 0, none⟩ = some (.slice ao (memN mm n).length mc) := (hbu2.row hgr.out (by simpa using Ne.symm nqg)).cell 0
            have m2 : (w1.setCell ⟨q, i * 9 + 7, none⟩ (.int .i64 (bsL ms left i - 1))).cell? ⟨q, i * 9 + 2, none⟩ = some (.pointer (some ⟨g, 0, none⟩)) := by rw [hr2.cell _ (by omega), msgL_at _ _ _ _ _ _ L i 2 hi (by omega)]; rfl
            have HR2 := hide (hrg1.kept gs (by simpa using Ne.symm nqd) (by simp; omega))
            have HB2 := hide hbu2
            have HQ2 := hide hr2
            clear hr1 hbu1 hrg1 hen hR hat hkey ekl hg1 hs1 gs hbu2 hr2 hmem2 HR1
            go_wp2_with fail
            refine (HMB.out).mono ?_
            rintro e w3 ⟨rfl, hb3⟩
            have HB3 := hide (HB2.out.under hb3)
            have HQ3 := hide (HQ2.out.below hb3)
            have hgb3 : (w1.setCell ⟨q, i * 9 + 7, none⟩ (.int .i64 (bsL ms left i - 1))).grownBy w3 none := ⟨hb3.os, hb3.tape, hb3.output, hb3.size, fun k hk _ => hb3.block k hk⟩
            have HR3 := hide (HR2.out.kept hgb3 (by simp) (by simp))
            clear HR2 HB2 HQ2 HMB hb3 hgb3 g0 m2 m7 f7 m1 c6
            cases hm : bitN mm t with
            | true =>
              rw [hm] at HQ3 y3
              have m8 : w3.cell? ⟨q, i * 9 + 8, none⟩ = some (.int .i64 (bcL ms true left i)) := by rw [HQ3.out.cell _ (by omega), msgL_at _ _ _ _ _ _ L i 8 hi (by omega)]; rfl
              have f8 := HQ3.out.frozen (i * 9 + 8)
              have gs := grownBy_setCell w3 q (i * 9 + 8) (.int .i64 (bcL ms true left i + 1))
              have HB4 : Hid (But [q] wa (w3.setCell ⟨q, i * 9 + 8, none⟩ (.int .i64 (bcL ms true left i + 1)))) := HB3.out.after gs (fun k e => by cases e; simp)
              have HR4 := hide (HR3.out.kept gs (by simpa using Ne.symm nqd) (by simp; omega))
              have HQ4 : Hid (RowM (w3.setCell ⟨q, i * 9 + 8, none⟩ (.int .i64 (bcL ms true left i + 1))) q vc L (msgL n g ms (bsL ms (fun z => left z && !z.sameKey (.int .i64 (i : Int)))) (bcL ms true (fun z => left z && !z.sameKey (.int .i64 (i : Int)))) (ow0 ms) L)) := by
                have := HQ3.out.set (i * 9 + 8) (.int .i64 (bcL ms true left i + 1))
                rw [msgL_bc _ _ _ _ _ _ L i _ hi] at this
                rw [msgL_congr (fun j _ => ⟨bsL_hit ms left i hlk hhit j, bcL_hit ms left i hlk hhit j, rfl⟩)]
                exact this
              clear gs
              go_wp2_with fail
              go_roundw
              case rel => exact ⟨_, cnt1, HR4, HH, fun _ => by rw [hm]; exact HQ4.out, HB4⟩
              case measure => rw [HR4.out.left_eq, hrg.out.left_eq]; omega
            | false =>
              rw [hm] at HQ3 y3
              have HQ4 : Hid (RowM w3 q vc L (msgL n g ms (bsL ms (fun z => left z && !z.sameKey (.int .i64 (i : Int)))) (bcL ms false (fun z => left z && !z.sameKey (.int .i64 (i : Int)))) (ow0 ms) L)) := by
                rw [msgL_congr (fun j _ => ⟨bsL_hit ms left i hlk hhit j, bcL_off ms false left i (by simp) j, rfl⟩)]
                exact HQ3.out
              go_wp2_with fail
              go_roundw
              case rel => exact ⟨_, cnt1, HR3, HH, fun _ => by rw [hm]; exact HQ4.out, HB3⟩
              case measure => rw [HR3.out.left_eq, hrg.out.left_eq]; omega
    · intro xs c kl y1 yp w1 cnt1 hkey hlk hR hat hrg1 hlt hg1 hs1 hen
      obtain ⟨rfl, hy⟩ := dG_at hat
      have hpv : ptrV c = .pointer (some ⟨g, 0, none⟩) := ptrElem_inv (b := g) (ps := yp) (by rw [hR, hy])
      obtain rfl : c = some g := by
        cases c with
        | none => simp [ptrV] at hpv
        | some b => simp [ptrV] at hpv; rw [hpv]
      have hen' : (Instr.entry (.pointer (some ⟨wS.heap.size, 0, none⟩))).run Ybaf.prog w1 = .ok (.tuple #[.string xs, .pointer (some ⟨g, 0, none⟩)]) w1 := hen
      rw [hlk, sv_on] at hgr
      have hgS : g < wS.heap.size := HSg.out.lt
      have hgr1 := hgr.out.kept hg1 (by simp; omega)
      have hbu1 : But [g] wS w1 := hbu.out.after hg1 (fun k e => by cases e; exact .inr (Nat.le_refl _))
      have hmem1 := hbu1.own HSM.out (by
        intro b hb cur e
        simp at hb
        subst hb
        have := HSg.out
        unfold RowT at this
        rw [this] at e
        cases e)
      have HMB := member_any mm n t ao mc hn (by omega) w1 hmem1
      rw [show (decide (t < n) && bitN mm t) = bitN mm t by simp [ht]] at HMB
      have HMB := hide HMB
      have g0 : w1.cell? ⟨g, 0, none⟩ = some (.slice ao (memN mm n).length mc) := hgr1.cell 0
      have HG1 := hide hgr1
      have HB1 := hide hbu1
      have HR1 := hide hrg1
      have hm0 : m 0 ≠ g := by have := HSg.out.neMap HSG.out; omega
      have hstrike : (fun z : Lit => left z && !z.sameKey kG) kG = false := by simp [kG, Lit.sameKey]
      have hsl4 := survN_le mm cm n
      clear hgr1 hbu1 hmem1 hrg1 hen hR hat hkey hpv hy
      go_wp2_with fail
      refine (HMB.out).mono ?_
      rintro e w2 ⟨rfl, hb2⟩
      have g1 : w2.cell? ⟨g, 1, none⟩ = some (.int .i64 (survN mm cm n)) := (hb2.cell (p := ⟨g, 1, none⟩) HG1.out.lt).trans (HG1.out.cell 1)
      have fg : w2.frozen? ⟨g, 1, none⟩ = false := (hb2.frozen (p := ⟨g, 1, none⟩) HG1.out.lt).trans (HG1.out.frozen 1)
      have HG2 : Hid (RowT w2 30 g [.slice ao (memN mm n).length mc, .int .i64 (survN mm cm n)]) := (hb2.block g HG1.out.lt).trans HG1.out
      have hgb2 : w1.grownBy w2 none := ⟨hb2.os, hb2.tape, hb2.output, hb2.size, fun k hk _ => hb2.block k hk⟩
      have HR2 := hide (HR1.out.kept hgb2 (by simp) (by simp))
      have HB2 := hide (HB1.out.under hb2)
      clear hb2 hgb2 HMB g0
      cases hm : bitN mm t with
      | true =>
        have gs2 := grownBy_setCell w2 g 1 (.int .i64 ((survN mm cm n : Int) - 1))
        have HG3 : Hid (RowT (w2.setCell ⟨g, 1, none⟩ (.int .i64 ((survN mm cm n : Int) - 1))) 30 g [.slice ao (memN mm n).length mc, .int .i64 (svN mm cm n t false)]) := by rw [sv_off_on hm]; exact HG2.out.set 1 _
        have HR3 := hide (HR2.out.kept gs2 (by simpa using hm0) (by simp; omega))
        have HB3 : Hid (But [g] wS _) := HB2.out.after gs2 (fun k e => by cases e; simp)
        clear gs2
        go_wp2_with fail
        go_roundw
        case rel => exact ⟨_, cnt1, HR3, by rw [hstrike]; exact HG3, HB3⟩
        case measure => rw [HR3.out.left_eq, hrg.out.left_eq]; omega
      | false =>
        go_wp2_with fail
        go_roundw
        case rel => exact ⟨_, cnt1, HR2, by rw [hstrike, sv_off_off hm]; exact HG2, HB2⟩
        case measure => rw [HR2.out.left_eq, hrg.out.left_eq]; omega

end Go.Proofs.YbulkczjkFmt
