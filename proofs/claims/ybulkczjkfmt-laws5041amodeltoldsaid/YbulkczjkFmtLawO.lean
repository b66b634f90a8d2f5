/-
  LawS5041AModel: walked, where a stranger crashes.
-/
import Derived.Test.YbulkczjkFmtLawK
namespace Go.Proofs.YbulkczjkFmt
open Go.RowKit Go.Maps

set_option maxRecDepth 100000 in
set_option maxHeartbeats 6400000 in
theorem model_out (x mm cm tg q t n : Nat) (sa : Option Addr) (L sc : Nat) (ms : Nat → Msg) (hx : x < 256) (hmm : mm < 256) (hcm : cm < 256) (htg : tg < 256) (hq : q = x % 4) (hn : n = q + 1) (ht : t = tg % n) (hL : L ≤ 300) (hpre : bitN cm t = false) (hmem : bitN mm t = false) (w : World) (hin : MsgsIn w sa L ms) :
    Calls Ybaf.prog 3 #[.int .u8 x, .int .u8 mm, .int .u8 cm, .int .u8 tg, .slice sa L sc] w fun e w' => e = .returned (.bool true) ∧ Below w.heap.size w w' := by
  have hq3 : q ≤ 3 := by omega
  have hn1 : 1 ≤ n := by omega
  have hn4 : n ≤ 4 := by omega
  have htn : t < n := by rw [ht]; exact Nat.mod_lt _ hn1
  have hqI : ((x : Int) % 4) = (q : Int) := by omega
  have hNI : (q : Int) + 1 = (n : Int) := by omega
  have hTI : (tg : Int) % (n : Int) = (t : Int) := by rw [ht]; simp
  clear hq hn ht
  have HID := hide (ids_any w)
  have HIN := hide hin
  clear hin
  go_enter Ybaf.func3, Ybaf.ntmps3
  go_wp2_with fail
  rw [hTI]
  try rw [hqI]
  clear hqI hNI hTI hq3 htg hx
  refine (HID.out).mono ?_
  rintro e w1 ⟨rfl, rfl⟩
  clear HID
  have hB0 : Below w.heap.size w (w.alloc idsRow) := (Below.refl _ _).alloc (Nat.le_refl _) _
  have hin1 := HIN.out.below hB0
  have HBD := hide (buildM_any n mm cm t hn4 hn1 hmm hcm htn sa L sc ms hL (w.alloc idsRow) hin1)
  have HB0 := hide hB0
  clear hB0 hin1
  go_wp2_with fail
  refine (HBD.out).mono ?_
  rintro e w2 ⟨lc, g, m, ao, mc, nd, dl, v, rfl, hb2, hB⟩
  clear HBD
  obtain ⟨va, vc, rfl⟩ := slice_of hB.msgs
  have g1 : w2.cell? ⟨g, 1, none⟩ = some (.int .i64 (survN mm cm n)) := hB.grp.cell 1
  have hid : w2.cell? ⟨w.heap.size, t, none⟩ = some (.string (idB t)) := (hb2.cell (p := ⟨w.heap.size, t, none⟩) (by simp)).trans (ids_cell w t (by omega))
  have HCR := hide (Crash_of _ n mm cm t L ms w2 lc g m ao mc nd dl _ hn4 htn hB _ (crashM_any _ n mm cm t L ms w2 lc g m ao mc nd dl va vc hn4 htn hL HIN.out.lt hpre hB))
  have HB2 := hide hb2
  have hBs : (w.alloc idsRow).heap.size = w.heap.size + 1 := by simp
  have hle := hB.le
  have HBG : Hid (m 6 ≠ m 8 ∧ m 6 ≠ m 10) := hB.ne
  clear hB hb2
  go_wp2_with fail
  refine (HCR.out).mono ?_
  rintro e w3 ⟨rfl, hA⟩
  have HA := hide hA
  have HBW : Hid (Below w.heap.size w w3) := (HB0.out.trans (HB2.out.mono (by simp))).trans (hA.below.mono (by simp))
  have hw3 : w.heap.size ≤ w3.heap.size := HBW.out.size
  clear HCR g1 hid hA HB2 HB0 hBs hle
  have hsv := survN_le mm cm n
  have hbp := bit_off hcm hpre
  have hbm := bit_off hmm hmem
  obtain ⟨w4, hmk, hr4, hg4⟩ := make_bools w3 n hn4
  have HR4 : Hid (RowT w4 4 w3.heap.size (crL cm 0 n)) := by rw [← crL_zero]; exact hr4
  have HG4 := hide hg4
  clear hr4 hg4
  go_wp2_with fail
  obtain ⟨CA, hCA⟩ : ∃ CA, w3.heap.size = CA := ⟨_, rfl⟩
  rw [hCA] at HR4 hw3
  rw [hCA]
  have HCA := hide hCA
  clear hCA hmk
  go_loopw [22] (fun i wx => ∃ k : Nat, k ≤ n ∧ i = .int .i64 k ∧ Hid (RowT wx 4 CA (crL cm k n)) ∧ Hid (But [CA] w3 wx)) (fun i _ => n - (intOf i).toNat)
  case atStart => exact ⟨0, Nat.zero_le _, rfl, HR4, (But.refl _ _).after HG4.out (fun _ e => by cases e)⟩
  case round =>
    obtain ⟨k, hk, rfl, hrow, hbu⟩ := hrel
    clear HR4 HG4
    by_cases hlt : k < n
    · have fz := hrow.out.frozen k
      have hlc : CA < wr.heap.size := hrow.out.lt
      have hce : wr.cell? ⟨CA, k, none⟩ = some (.bool (decide (k < k) && bitN cm k)) := by rw [hrow.out.cell k]; simp [crL, hlt]
      have gs := grownBy_setCell wr CA k (.bool (bitN cm k))
      have HR5 : Hid (RowT (wr.setCell ⟨CA, k, none⟩ (.bool (bitN cm k))) 4 CA (crL cm (k + 1) n)) := by rw [← crL_step]; exact hrow.out.set _ _
      have HB5 : Hid (But [CA] w3 (wr.setCell ⟨CA, k, none⟩ (.bool (bitN cm k)))) := hbu.out.after gs (fun x e => by cases e; simp)
      clear gs
      cases hc : bitN cm k with
      | true =>
        have hb := bit_on hcm hc
        rw [hc] at HR5 HB5
        go_wp2_with fail
        go_roundw
        case rel => exact ⟨k + 1, by omega, by go_num, HR5, HB5⟩
        case measure => simp [intOf]; omega
      | false =>
        have hb := bit_off hcm hc
        rw [hc] at HR5 HB5
        go_wp2_with fail
        go_roundw
        case rel => exact ⟨k + 1, by omega, by go_num, HR5, HB5⟩
        case measure => simp [intOf]; omega
    · obtain rfl : n = k := by omega
      clear hlt hk
      have fz := hrow.out.frozen t
      have hlc : CA < wr.heap.size := hrow.out.lt
      have hce : wr.cell? ⟨CA, t, none⟩ = some (.bool (bitN cm t)) := by rw [hrow.out.cell t]; simp [crL, htn]
      have gs := grownBy_setCell wr CA t (.bool true)
      have HR6 : Hid (RowT (wr.setCell ⟨CA, t, none⟩ (.bool true)) 4 CA ((crL cm n n).set t (.bool true))) := hrow.out.set _ _
      have HB6 : Hid (But [CA] w3 (wr.setCell ⟨CA, t, none⟩ (.bool true))) := hbu.out.after gs (fun x e => by cases e; simp)
      clear gs
      clear hrow hbu
      go_wp2_with fail
      generalize wr.setCell ⟨CA, t, none⟩ (.bool true) = w5 at *
      clear fz hlc hce
      have HST : Hid (St n mm cm t L ms (bsF ms) (bcF ms false) (owF n mm cm t ms) ((expN ms L : Int) + dN n mm cm t ms L) (survN mm cm n : Int) w w5 sa lc g m ao mc va vc CA) := St.of (by have := HA.out; rwa [hmem, sv_off_off hmem] at this) HB6.out HCA.out HBW.out HIN.out HR6.out
      clear HA HBW HCA HR6 HB6 HIN
      go_loopw [23, 24] (fun e i wx => ∃ k : Nat, k ≤ L ∧ i = .int .i64 k ∧ e = .int .i64 ((expN ms L : Int) + dN n mm cm t ms k) ∧ Hid (St n mm cm t L ms (bsF ms) (bcF ms false) (owF n mm cm t ms) ((expN ms L : Int) + dN n mm cm t ms L) (survN mm cm n : Int) w wx sa lc g m ao mc va vc CA)) (fun _ i _ => L - (intOf i).toNat)
      case atStart => exact ⟨0, Nat.zero_le _, rfl, by simp [dN], HST⟩
      case round =>
        obtain ⟨k, hk, rfl, rfl, hst⟩ := hrel
        clear HST
        by_cases hlt : k < L
        · have h0 : 0 < L := by omega
          obtain ⟨b, o, rfl, hbl, hcs⟩ := hst.out.inn.at_ h0
          obtain ⟨u1, u2, u3, u4⟩ := hst.out.inn.lt k hlt
          have q0 : wr.cell? ⟨b, o + k * 6, none⟩ = some (.int .u8 (ms k).sd) := hcs k hlt 0 _ rfl
          have q1 : wr.cell? ⟨b, o + k * 6 + 1, none⟩ = some (.int .u8 (ms k).bs) := hcs k hlt 1 _ rfl
          have q2 : wr.cell? ⟨b, o + k * 6 + 2, none⟩ = some (.int .u8 (ms k).bc) := hcs k hlt 2 _ rfl
          have q3 : wr.cell? ⟨b, o + k * 6 + 3, none⟩ = some (.int .u8 (ms k).ow) := hcs k hlt 3 _ rfl
          have q4 : wr.cell? ⟨b, o + k * 6 + 4, none⟩ = some (.bool (ms k).st) := hcs k hlt 4 _ rfl
          have q5 : wr.cell? ⟨b, o + k * 6 + 5, none⟩ = some (.bool (ms k).dl) := hcs k hlt 5 _ rfl
          clear hcs
          go_wp2_with fail
          obtain ⟨P, hPE⟩ : ∃ P, wr.heap.size = P := ⟨_, rfl⟩
          obtain ⟨wq, hwq⟩ : ∃ wq, wr.alloc (.cells #[.int .u8 (ms k).sd, .int .u8 (ms k).bs, .int .u8 (ms k).bc, .int .u8 (ms k).ow, .bool (ms k).st, .bool (ms k).dl] 37) = wq := ⟨_, rfl⟩
          have hqg : wr.grownBy wq none := by rw [← hwq]; exact World.grownBy_alloc wr _ none
          have hqP : RowT wq 37 P (msgIn (ms k)) := by rw [← hwq, ← hPE]; exact heap_new wr _
          rw [hwq, hPE]
          have HQ := hide (hst.out.kept hqg)
          clear hwq q0 q1 q2 q3 q4 q5 hst hqg hPE
          have p1 : wq.cell? ⟨P, 1, none⟩ = some (.int .u8 (ms k).bs) := hqP.cell 1
          have p2 : wq.cell? ⟨P, 2, none⟩ = some (.int .u8 (ms k).bc) := hqP.cell 2
          have p3 : wq.cell? ⟨P, 3, none⟩ = some (.int .u8 (ms k).ow) := hqP.cell 3
          go_quiet (fail)
          generalize hwz : wq.drewN nq = wz
          have hzP : RowT wz 37 P (msgIn (ms k)) := by rw [← hwz]; exact hqP
          have HZ := hide (HQ.out.kept (w6 := wz) (by rw [← hwz]; exact ⟨rfl, rfl, rfl, Nat.le_refl _, fun _ _ _ => rfl⟩))
          clear hwz hqP HQ p1 p2 p3
          have p0 : wz.cell? ⟨P, 0, none⟩ = some (.int .u8 (ms k).sd) := hzP.cell 0
          have p4 : wz.cell? ⟨P, 4, none⟩ = some (.bool (ms k).st) := hzP.cell 4
          have p5 : wz.cell? ⟨P, 5, none⟩ = some (.bool (ms k).dl) := hzP.cell 5
          have hPl : P < wz.heap.size := hzP.lt
          obtain ⟨qq, rfl, hrow⟩ := HZ.out.aft.msgs h0
          have c6 : wz.cell? ⟨lc, 6, none⟩ = some (.slice (some ⟨qq, 0, none⟩) L vc) := HZ.out.aft.row.cell 6
          have t0 : wz.cell? ⟨qq, k * 9, none⟩ = some (.string ⟨#[]⟩) := by have := hrow.cell (k * 9 + 0) (by omega); rw [msgL_at _ _ _ _ _ _ L k 0 hlt (by omega)] at this; exact this
          have t1 : wz.cell? ⟨qq, k * 9 + 1, none⟩ = some (.bool (ms k).st) := by rw [hrow.cell _ (by omega), msgL_at _ _ _ _ _ _ L k 1 hlt (by omega)]; rfl
          have t2 : wz.cell? ⟨qq, k * 9 + 2, none⟩ = some (.pointer (some ⟨g, 0, none⟩)) := by rw [hrow.cell _ (by omega), msgL_at _ _ _ _ _ _ L k 2 hlt (by omega)]; rfl
          have t3 : wz.cell? ⟨qq, k * 9 + 3, none⟩ = some (.int .i64 (((ms k).sd : Int) % (n : Int))) := by rw [hrow.cell _ (by omega), msgL_at _ _ _ _ _ _ L k 3 hlt (by omega)]; rfl
          have t4 : wz.cell? ⟨qq, k * 9 + 4, none⟩ = some (.bool false) := by rw [hrow.cell _ (by omega), msgL_at _ _ _ _ _ _ L k 4 hlt (by omega)]; rfl
          have t5 : wz.cell? ⟨qq, k * 9 + 5, none⟩ = some (.bool false) := by rw [hrow.cell _ (by omega), msgL_at _ _ _ _ _ _ L k 5 hlt (by omega)]; rfl
          have t6 : wz.cell? ⟨qq, k * 9 + 6, none⟩ = some (.int .i64 ((owF n mm cm t ms) k)) := by rw [hrow.cell _ (by omega), msgL_at _ _ _ _ _ _ L k 6 hlt (by omega)]; rfl
          have t7 : wz.cell? ⟨qq, k * 9 + 7, none⟩ = some (.int .i64 ((bsF ms) k)) := by rw [hrow.cell _ (by omega), msgL_at _ _ _ _ _ _ L k 7 hlt (by omega)]; rfl
          have t8 : wz.cell? ⟨qq, k * 9 + 8, none⟩ = some (.int .i64 ((bcF ms false) k)) := by rw [hrow.cell _ (by omega), msgL_at _ _ _ _ _ _ L k 8 hlt (by omega)]; rfl
          clear hrow hzP
          have x4 := dN_le n mm cm t L ms hn4 (fun i hi => ⟨(HZ.out.inn.lt i hi).2.2.1, (HZ.out.inn.lt i hi).2.2.2⟩) k hk
          have x5 := expN_le ms L (fun i hi => (HZ.out.inn.lt i hi).2.2.2) L (Nat.le_refl _)
          cases hst' : (ms k).st with
          | false =>
            have e7 : bsF ms k = ((ms k).bs : Int) := by simp [bsF, hitB, hst']
            have e8 : bcF ms false k = ((ms k).bc : Int) := by simp [bcF, hitB, hst']
            have e6 : owF n mm cm t ms k = ((ms k).ow : Int) := by simp [owF, hst', ow0]
            rw [hst'] at p4 t1
            rw [e7] at t7
            rw [e8] at t8
            rw [e6] at t6
            go_wp2_with fail
            go_roundw
            case rel => exact ⟨k + 1, by omega, by go_num, by rw [dN_off _ _ _ _ _ _ hst'], HZ.out.kept (World.grownBy_alloc _ _ none)⟩
            case measure => simp [intOf]; omega
          | true =>
            obtain ⟨s, hs⟩ : ∃ s, (ms k).sd % n = s := ⟨_, rfl⟩
            have hsn : s < n := by rw [← hs]; exact Nat.mod_lt _ hn1
            have hsI : ((ms k).sd : Int) % (n : Int) = (s : Int) := by rw [← hs]; rfl
            have cA : wz.cell? ⟨CA, s, none⟩ = some (.bool (crA cm t s)) := by rw [HZ.out.ca.cell s]; exact crA_at cm n t s hsn
            rw [hst'] at p4 t1
            rw [hsI] at t3
            cases hd : (ms k).dl with
            | true =>
              have e7 : bsF ms k = ((ms k).bs : Int) - 1 := by simp [bsF, hitB, hst', hd]
              have e8 : bcF ms false k = ((ms k).bc : Int) := by simp [bcF, hitB, hst', hd]
              rw [hd] at p5
              rw [e7] at t7
              rw [e8] at t8
              cases hcr : crA cm t s with
              | false =>
                have e6 : owF n mm cm t ms k = ((ms k).bc : Int) + (survN mm cm n : Int) := by unfold owF; rw [hst', if_pos rfl, hs, hcr, hmem, e7, e8, sv_off_off hmem, owN_up]
                have eD : dN n mm cm t ms (k + 1) = dN n mm cm t ms k + (((ms k).bc : Int) + (survN mm cm n : Int) - ((ms k).ow : Int)) := by rw [dN, e6]; rfl
                rw [e6] at t6
                rw [hcr] at cA
                go_wp2_with fail
                go_roundw
                case rel => exact ⟨k + 1, by omega, by go_num, by rw [eD]; go_num, HZ.out.kept (World.grownBy_alloc _ _ none)⟩
                case measure => simp [intOf]; omega
              | true =>
                by_cases hb0 : (0 : Int) < ((ms k).bs : Int) - 1
                · have e6 : owF n mm cm t ms k = ((ms k).bc : Int) + (survN mm cm n : Int) := by unfold owF; rw [hst', if_pos rfl, hs, hcr, hmem, e7, e8, sv_off_off hmem, owN_on _ _ hb0]
                  have eD : dN n mm cm t ms (k + 1) = dN n mm cm t ms k + (((ms k).bc : Int) + (survN mm cm n : Int) - ((ms k).ow : Int)) := by rw [dN, e6]; rfl
                  rw [e6] at t6
                  rw [hcr] at cA
                  go_wp2_with fail
                  go_roundw
                  case rel => exact ⟨k + 1, by omega, by go_num, by rw [eD]; go_num, HZ.out.kept (World.grownBy_alloc _ _ none)⟩
                  case measure => simp [intOf]; omega
                · have hb1 : ((ms k).bs : Int) - 1 ≤ 0 := by omega
                  have e6 : owF n mm cm t ms k = ((ms k).bc : Int) := by unfold owF; rw [hst', if_pos rfl, hs, hcr, hmem, e7, e8, sv_off_off hmem, owN_off _ _ hb1]
                  have eD : dN n mm cm t ms (k + 1) = dN n mm cm t ms k + (((ms k).bc : Int) - ((ms k).ow : Int)) := by rw [dN, e6]; rfl
                  rw [e6] at t6
                  rw [hcr] at cA
                  go_wp2_with fail
                  go_roundw
                  case rel => exact ⟨k + 1, by omega, by go_num, by rw [eD]; go_num, HZ.out.kept (World.grownBy_alloc _ _ none)⟩
                  case measure => simp [intOf]; omega
            | false =>
              have e7 : bsF ms k = ((ms k).bs : Int) := by simp [bsF, hitB, hst', hd]
              have e8 : bcF ms false k = ((ms k).bc : Int) := by simp [bcF, hitB, hst', hd]
              rw [hd] at p5
              rw [e7] at t7
              rw [e8] at t8
              cases hcr : crA cm t s with
              | false =>
                have e6 : owF n mm cm t ms k = ((ms k).bc : Int) + (survN mm cm n : Int) := by unfold owF; rw [hst', if_pos rfl, hs, hcr, hmem, e7, e8, sv_off_off hmem, owN_up]
                have eD : dN n mm cm t ms (k + 1) = dN n mm cm t ms k + (((ms k).bc : Int) + (survN mm cm n : Int) - ((ms k).ow : Int)) := by rw [dN, e6]; rfl
                rw [e6] at t6
                rw [hcr] at cA
                go_wp2_with fail
                go_roundw
                case rel => exact ⟨k + 1, by omega, by go_num, by rw [eD]; go_num, HZ.out.kept (World.grownBy_alloc _ _ none)⟩
                case measure => simp [intOf]; omega
              | true =>
                by_cases hb0 : (0 : Int) < ((ms k).bs : Int)
                · have e6 : owF n mm cm t ms k = ((ms k).bc : Int) + (survN mm cm n : Int) := by unfold owF; rw [hst', if_pos rfl, hs, hcr, hmem, e7, e8, sv_off_off hmem, owN_on _ _ hb0]
                  have eD : dN n mm cm t ms (k + 1) = dN n mm cm t ms k + (((ms k).bc : Int) + (survN mm cm n : Int) - ((ms k).ow : Int)) := by rw [dN, e6]; rfl
                  rw [e6] at t6
                  rw [hcr] at cA
                  go_wp2_with fail
                  go_roundw
                  case rel => exact ⟨k + 1, by omega, by go_num, by rw [eD]; go_num, HZ.out.kept (World.grownBy_alloc _ _ none)⟩
                  case measure => simp [intOf]; omega
                · have hb1 : ((ms k).bs : Int) ≤ 0 := by omega
                  have e6 : owF n mm cm t ms k = ((ms k).bc : Int) := by unfold owF; rw [hst', if_pos rfl, hs, hcr, hmem, e7, e8, sv_off_off hmem, owN_off _ _ hb1]
                  have eD : dN n mm cm t ms (k + 1) = dN n mm cm t ms k + (((ms k).bc : Int) - ((ms k).ow : Int)) := by rw [dN, e6]; rfl
                  rw [e6] at t6
                  rw [hcr] at cA
                  go_wp2_with fail
                  go_roundw
                  case rel => exact ⟨k + 1, by omega, by go_num, by rw [eD]; go_num, HZ.out.kept (World.grownBy_alloc _ _ none)⟩
                  case measure => simp [intOf]; omega
        · obtain rfl : L = k := by omega
          clear hlt hk
          have c6 : wr.cell? ⟨lc, 6, none⟩ = some (.slice va L vc) := hst.out.aft.row.cell 6
          have c11 : wr.cell? ⟨lc, 11, none⟩ = some (.int .i64 ((expN ms L : Int) + dN n mm cm t ms L)) := hst.out.aft.row.cell 11
          have g1 : wr.cell? ⟨g, 1, none⟩ = some (.int .i64 (survN mm cm n : Int)) := hst.out.aft.grp.cell 1
          go_wp2_with fail
          clear c6 c11 g1
          go_loopw [31] (fun i wx => ∃ k : Nat, k ≤ n ∧ i = .int .i64 k ∧ Hid (St n mm cm t L ms (bsF ms) (bcF ms false) (owF n mm cm t ms) ((expN ms L : Int) + dN n mm cm t ms L) (survN mm cm n : Int) w wx sa lc g m ao mc va vc CA)) (fun i _ => n - (intOf i).toNat)
          case atStart => exact ⟨0, Nat.zero_le _, rfl, hst⟩
          case round =>
            obtain ⟨k, hk, rfl, hs2⟩ := hrel
            clear hst
            by_cases hlt : k < n
            · have c2 : wr.cell? ⟨lc, 2, none⟩ = some (.slice (some ⟨m 6, 0, none⟩) n n) := hs2.out.aft.row.cell 2
              have c3 : wr.cell? ⟨lc, 3, none⟩ = some (.slice (some ⟨m 8, 0, none⟩) n n) := hs2.out.aft.row.cell 3
              have c4 : wr.cell? ⟨lc, 4, none⟩ = some (.slice (some ⟨m 10, 0, none⟩) n n) := hs2.out.aft.row.cell 4
              have d6 : wr.cell? ⟨m 6, k, none⟩ = some (.bool (crA cm t k)) := by rw [hs2.out.aft.crashed.cell k]; exact crA_at cm n t k hlt
              have dA : wr.cell? ⟨CA, k, none⟩ = some (.bool (crA cm t k)) := by rw [hs2.out.ca.cell k]; exact crA_at cm n t k hlt
              have d8 : wr.cell? ⟨m 8, k, none⟩ = some (.bool false) := by rw [hs2.out.aft.stopped.cell k]; simp [hlt]
              have d10 : wr.cell? ⟨m 10, k, none⟩ = some (.bool false) := by rw [hs2.out.aft.last.cell k]; simp [hlt]
              cases hcr : crA cm t k with
              | true =>
                rw [hcr] at d6 dA
                go_wp2_with fail
                go_quiet (fail)
                go_wp2_with fail
                go_roundw
                case rel => exact ⟨k + 1, by omega, by go_num, hs2.out.kept ⟨rfl, rfl, rfl, Nat.le_refl _, fun _ _ _ => rfl⟩⟩
                case measure => simp [intOf]; omega
              | false =>
                rw [hcr] at d6 dA
                go_wp2_with fail
                go_quiet (fail)
                go_wp2_with fail
                go_roundw
                case rel => exact ⟨k + 1, by omega, by go_num, hs2.out.kept ⟨rfl, rfl, rfl, Nat.le_refl _, fun _ _ _ => rfl⟩⟩
                case measure => simp [intOf]; omega
            · obtain rfl : n = k := by omega
              go_wp2_with fail
              go_ret
              exact ⟨rfl, hs2.out.aft.below⟩

end Go.Proofs.YbulkczjkFmt
