/-
  (*LogChecker).crash: walked, without messages.
-/
import Derived.Test.YbulkczjkFmtMember
import Derived.Maps.RangeWalk
import Derived.Maps.OwnSet
import Derived.Deep.Cut
namespace Go.Proofs.YbulkczjkFmt
open Go.RowKit Go.Maps

theorem But.after {S : List Nat} {a b c : World} {row : Option Nat} (h : But S a b) (k : b.grownBy c row) (hr : ∀ g, row = some g → g ∈ S ∨ a.heap.size ≤ g) : But S a c := by
  refine ⟨k.os.trans h.os, k.tape.trans h.tape, k.output.trans h.output, Nat.le_trans h.size k.size, fun i hi hne => (k.block i (Nat.lt_of_lt_of_le hi h.size) (fun e => ?_)).trans (h.block i hi hne)⟩
  rcases hr i e.symm with h1 | h1
  · exact hne h1
  · omega
theorem But.under {S : List Nat} {a b c : World} (h : But S a b) (k : Below b.heap.size b c) : But S a c :=
  ⟨k.os.trans h.os, k.tape.trans h.tape, k.output.trans h.output, Nat.le_trans h.size k.size, fun i hi hne => (k.block i (Nat.lt_of_lt_of_le hi h.size)).trans (h.block i hi hne)⟩
theorem But.own {S : List Nat} {w w' : World} {B n : Nat} {v : Value} {xs : List Value} (h : But S w w') (ho : w.ownsRow B 9 1 v n xs) (hS : ∀ b ∈ S, ∀ cur : Array Value, w.heap[b]? ≠ some (Obj.cells cur 9 (0, 0))) : w'.ownsRow B 9 1 v n xs :=
  own_kept ho fun b cur hb => h.block b (Array.getElem?_eq_some_iff.1 hb).1 (fun e => hS b e cur hb)

theorem proc_at : ∀ n, n ≤ 4 → ∀ t, t < n → ∀ z, (procD n).atKey (.string (idB t).data.toList) z = .lit (.int .i64 t) := by
  intro n hn t ht z
  have : (n = 1 ∧ t = 0) ∨ (n = 2 ∧ t = 0) ∨ (n = 2 ∧ t = 1) ∨ (n = 3 ∧ t = 0) ∨ (n = 3 ∧ t = 1) ∨ (n = 3 ∧ t = 2) ∨ (n = 4 ∧ t = 0) ∨ (n = 4 ∧ t = 1) ∨ (n = 4 ∧ t = 2) ∨ (n = 4 ∧ t = 3) := by omega
  rcases this with ⟨rfl, rfl⟩ | ⟨rfl, rfl⟩ | ⟨rfl, rfl⟩ | ⟨rfl, rfl⟩ | ⟨rfl, rfl⟩ | ⟨rfl, rfl⟩ | ⟨rfl, rfl⟩ | ⟨rfl, rfl⟩ | ⟨rfl, rfl⟩ | ⟨rfl, rfl⟩ <;> rfl

theorem proc_has (k : Nat) (s : List UInt8) : Maps.has (procD k) (.string s) = true → ∃ i, i < k ∧ s = (idB i).data.toList := by
  induction k with
  | zero => intro h; cases h
  | succ k ih =>
    intro h
    rw [procD_succ] at h
    by_cases e : s = (idB k).data.toList
    · exact ⟨k, by omega, e⟩
    · rw [Maps.has_put_other (fun e' => e (by simpa using e'))] at h
      obtain ⟨i, hi, e⟩ := ih h
      exact ⟨i, by omega, e⟩

theorem dG_eq (g : Nat) : dG g = .map [(kG, .lit (.int .i64 g))] := by simp [dG, DataW.put, DataW.insert]

theorem dG_at {g : Nat} {kl : Lit} {d : DataW Unit} (h : ∀ zd, (dG g).atKey kl zd = d) : kl = kG ∧ d = .lit (.int .i64 g) := by
  have e : ∀ zd, (dG g).atKey kl zd = if kG.sameKey kl then .lit (.int .i64 g) else zd := by
    intro zd
    rw [dG_eq]
    simp only [DataW.atKey, List.find?_cons, List.find?_nil]
    cases kG.sameKey kl <;> rfl
  cases hs : kG.sameKey kl with
  | true =>
    refine ⟨?_, by rw [← h d, e, hs]; rfl⟩
    cases kl <;> simp [kG, Lit.sameKey] at hs
    subst hs
    rfl
  | false =>
    have h1 := (h (.lit (.bool true)))
    have h2 := (h (.lit (.bool false)))
    rw [e, hs] at h1 h2
    rw [← h2] at h1
    cases h1

def ptrV (c : Option Nat) : Value := .pointer (c.map fun b => ⟨b, 0, none⟩)
theorem ptrV_inv (v : Value) (y : DataW Unit × List MemPlace) (h : ptrElem v = some y) : ∃ c, v = ptrV c := by
  unfold ptrElem at h
  split at h
  · exact ⟨some _, rfl⟩
  · exact ⟨none, rfl⟩
  · cases h
theorem strK_inv (key : Value) (kl : Lit) (h : keyOf Ybaf.prog 9 key = some kl) : ∃ x, key = .string x := by
  cases key <;> simp [keyOf, Ybaf.underlying9, mapKey] at h
  exact ⟨_, rfl⟩
theorem intK_inv (key : Value) (kl : Lit) (h : keyOf Ybaf.prog 3 key = some kl) : ∃ x, key = .int .i64 x := by
  obtain ⟨x, e, _⟩ := Maps.keyOf_int_inv Ybaf.underlying3 h
  exact ⟨x, e⟩
theorem boolV_inv (v : Value) (y : DataW Unit × List MemPlace) (h : plainElem Ybaf.prog 4 v = some y) : ∃ c, v = .bool c := by
  cases v <;> simp [plainElem, Ybaf.underlying4] at h
  exact ⟨_, rfl⟩

/-- survivors, as it stands while the range over the groups is under way. -/
def svN (mm cm n t : Nat) (still : Bool) : Int := (survN mm cm n : Int) - if still then 0 else if bitN mm t then 1 else 0

theorem sv_on (mm cm n t : Nat) : svN mm cm n t true = (survN mm cm n : Int) := by simp [svN]
theorem sv_off_on {mm cm n t : Nat} (h : bitN mm t = true) : svN mm cm n t false = (survN mm cm n : Int) - 1 := by simp [svN, h]
theorem sv_off_off {mm cm n t : Nat} (h : bitN mm t = false) : svN mm cm n t false = (survN mm cm n : Int) := by simp [svN, h]
theorem Ybaf.law3 : Keyed Ybaf.prog 3 := int_keyed Ybaf.underlying3

theorem crash_done (B n mm cm t : Nat) (w : World) (lc g : Nat) (m : Nat → Nat) (ao : Option Addr) (mc nd dl : Nat) (hn : n ≤ 4) (ht : t < n) (hbit : bitN cm t = true) (h : Built B n mm cm t w lc g m ao mc nd dl) :
    Calls Ybaf.prog 13 #[.pointer (some ⟨lc, 0, none⟩), .string (idB t)] w fun e w' => e = .returned (.tuple #[]) ∧ w' = w := by
  obtain ⟨c, hrun, hat, hwc⟩ := h.procs.lookup_int Ybaf.law9 Ybaf.underlying41 Ybaf.underlying3 (Ybaf.zeroValue3 _) (idB_key t)
  rw [proc_at n hn t ht] at hat
  obtain rfl : c = (t : Int) := by simpa using hat.symm
  have c1 : w.cell? ⟨lc, 1, none⟩ = some (.map (some (m 4))) := h.row.cell 1
  have c2 : w.cell? ⟨lc, 2, none⟩ = some (.slice (some ⟨m 6, 0, none⟩) n n) := h.row.cell 2
  have c3 : w.cell? ⟨m 6, t, none⟩ = some (.bool true) := by rw [h.crashed.cell t]; simp [crL, ht, hbit]
  clear h hat hwc
  go_enter Ybaf.func13, Ybaf.ntmps13
  go_wp2
  exact bodyPost_ret (v := .tuple #[]) (by simp [results, Ybaf.results13, go_sem]) rfl ⟨rfl, rfl⟩

set_option maxRecDepth 100000 in
set_option maxHeartbeats 3200000 in
theorem crash_any (B n mm cm t : Nat) (w : World) (lc g : Nat) (m : Nat → Nat) (ao : Option Addr) (mc nd dl : Nat) (hn : n ≤ 4) (ht : t < n) (hbit : bitN cm t = false) (h : Built B n mm cm t w lc g m ao mc nd dl) :
    Calls Ybaf.prog 13 #[.pointer (some ⟨lc, 0, none⟩), .string (idB t)] w fun e w' => e = .returned (.tuple #[]) ∧ But [m 6, g] w w' ∧
      RowT w' 4 (m 6) ((crL cm n n).set t (.bool true)) ∧ RowT w' 30 g [.slice ao (memN mm n).length mc, .int .i64 (svN mm cm n t false)] := by
  obtain ⟨c, hrun, hat, hwc⟩ := h.procs.lookup_int Ybaf.law9 Ybaf.underlying41 Ybaf.underlying3 (Ybaf.zeroValue3 _) (idB_key t)
  rw [proc_at n hn t ht] at hat
  obtain rfl : c = (t : Int) := by simpa using hat.symm
  have c1 : w.cell? ⟨lc, 1, none⟩ = some (.map (some (m 4))) := h.row.cell 1
  have c2 : w.cell? ⟨lc, 2, none⟩ = some (.slice (some ⟨m 6, 0, none⟩) n n) := h.row.cell 2
  have c3 : w.cell? ⟨m 6, t, none⟩ = some (.bool false) := by rw [h.crashed.cell t]; simp [crL, ht, hbit]
  have f3 := h.crashed.frozen t
  have c0 : w.cell? ⟨lc, 0, none⟩ = some (.map (some (m 0))) := h.row.cell 0
  have hne6 : m 6 ≠ lc := h.crashed.ne h.row (by decide)
  have hng : m 6 ≠ g := h.crashed.ne h.grp (by decide)
  have gS := grownBy_setCell w (m 6) t (.bool true)
  have HS6 : Hid (RowT (w.setCell ⟨m 6, t, none⟩ (.bool true)) 4 (m 6) ((crL cm n n).set t (.bool true))) := h.crashed.set _ _
  have HSl : Hid (RowT (w.setCell ⟨m 6, t, none⟩ (.bool true)) 47 lc (lcCells n m)) := h.row.kept gS (by simpa using Ne.symm hne6)
  have HSg : Hid (RowT (w.setCell ⟨m 6, t, none⟩ (.bool true)) 30 g [.slice ao (memN mm n).length mc, .int .i64 (survN mm cm n)]) := h.grp.kept gS (by simpa using Ne.symm hng)
  have nm : ∀ {H : Type} {k b q : Nat} {R : Value → Option (DataW H × List MemPlace)} {D : DataW H}, w.ownsMap Ybaf.prog k R b q D → some b ≠ some (m 6) := fun ho e => h.crashed.neMap ho (by simpa using e.symm)
  have HSG : Hid ((w.setCell ⟨m 6, t, none⟩ (.bool true)).ownsMap Ybaf.prog 9 ptrElem (m 0) 1 (dG g)) := h.groups.kept gS (nm h.groups)
  have HSN := hide (h.nodes.kept gS (nm h.nodes))
  have HSD := hide (h.deliv.kept gS (nm h.deliv))
  have HSM : Hid ((w.setCell ⟨m 6, t, none⟩ (.bool true)).ownsRow 0 9 1 (.slice ao (memN mm n).length mc) (memN mm n).length (memV mm n)) := own_kept h.mem fun b cur hb => gS.block b (Array.getElem?_eq_some_iff.1 hb).1 (fun e => by
    have := h.crashed
    unfold RowT at this
    rw [Option.some.inj e, this] at hb
    cases hb)
  obtain ⟨x, y, hnode⟩ := h.node
  have HSO := hide (hnode.kept gS (by simpa using hnode.ne h.crashed (by decide)))
  have HSB : Hid (But [m 6, g] w (w.setCell ⟨m 6, t, none⟩ (.bool true))) := (But.refl _ w).next gS (fun g e => by cases e; simp)
  have hsl : lc < w.heap.size := h.row.lt
  clear h hat hwc gS hnode nm
  go_enter Ybaf.func13, Ybaf.ntmps13
  go_wp2_with (at_range; refine wpList_range_own _ rfl _ 40 rfl 9 26 Ybaf.law9 Ybaf.underlying40 ptrElem (m 0) 1 (dG g) rfl HSG.out ?_; intro w0 hrg0 hg0 hs0)
  go_frame
  generalize w.setCell ⟨m 6, t, none⟩ (.bool true) = wS at *
  have hb0 : But [g] wS w0 := (But.refl _ wS).after hg0 (fun g e => by cases e)
  have HG0 : Hid (RowT w0 30 g [.slice ao (memN mm n).length mc, .int .i64 (svN mm cm n t true)]) := by
    have := HSg.out.kept hg0 (by simp)
    rw [sv_on]
    exact this
  have HB0 := hide hb0
  have HR0 := hide hrg0
  clear hb0 hrg0 hg0 c1 c2 c3 f3 c0 hs0
  go_loopw [6] (fun _ wr => ∃ (left : Lit → Bool) (cnt : Nat), Hid (wr.ranges Ybaf.prog 9 ptrElem (m 0) wS.heap.size 1 (dG g) left cnt) ∧ Hid (RowT wr 30 g [.slice ao (memN mm n).length mc, .int .i64 (svN mm cm n t (left kG))]) ∧ Hid (But [g] wS wr)) (fun _ wr => wr.rangeLeft (m 0) wS.heap.size)
  case atStart =>
    refine ⟨_, _, HR0, ?_, HB0⟩
    have : Maps.has (dG g) kG = true := by rw [dG_eq]; rfl
    rw [this]
    exact HG0
  case round =>
    obtain ⟨left, cnt, hrg, hgr, hbu⟩ := hrel
    clear HG0 HB0 HR0
    go_wp2_with (at_next; refine wpList_next_ranges _ rfl _ rfl 9 Ybaf.law9 ptrElem Value.string ptrV strK_inv ptrV_inv (m 0) wS.heap.size 1 _ _ _ rfl hrg.out ?_ ?_)
    · intro hc0 hl0
      have hgl : lc ≠ g := HSl.out.ne HSg.out (by decide)
      have hlr := hbu.out.row HSl.out (by simpa using hgl)
      have c5 : wr.cell? ⟨lc, 5, none⟩ = some (.map (some (m 11))) := hlr.cell 5
      have c6 : wr.cell? ⟨lc, 6, none⟩ = some (.slice none 0 0) := hlr.cell 6
      have hnn : m 11 ∉ [g] := by have := HSg.out.neMap HSN.out; simp; omega
      have hnd : dl ∉ [g] := by have := HSg.out.neMap HSD.out; simp; omega
      obtain ⟨v, ps, hrn, hRv⟩ := (hbu.out.map HSN.out hnn).lookup Ybaf.law9 Ybaf.underlying42 (Ybaf.zeroValue64 _) (zd := .lit (.bool false)) (zp := []) rfl (idB_key t)
      rw [Maps.atKey_put_same (D := DataW.map []) (k := Lit.string (idB t).data.toList) ⟨_, rfl⟩ trivial] at hRv
      obtain rfl := ptrElem_inv hRv
      have HDL := hide (hbu.out.map HSD.out hnd)
      have hno : nd ∉ [g] := by have := HSO.out.ne HSg.out (by decide); simpa using this
      have c7 : wr.cell? ⟨nd, 5, none⟩ = some (.map (some dl)) := (hbu.out.row HSO.out hno).cell 5
      have hlk0 : left kG = false := hl0 kG
      rw [hlk0] at hgr
      clear hRv hlr hgl hnn hnd hno hlk0
      go_wp2_with (at_range; refine wpList_range_own _ rfl _ 63 rfl 3 4 Ybaf.law3 Ybaf.underlying63 (plainElem (H := Unit) Ybaf.prog 4) dl 0 (.map []) rfl HDL.out ?_; intro w2 hrg2 hg2 hs2)
      go_frame
      have HB2 : Hid (But [g] wS w2) := hbu.out.after hg2 (fun g e => by cases e)
      have HG2 := hide (hgr.out.kept hg2 (by simp))
      have HR2 := hide hrg2
      have c62 : w2.cell? ⟨lc, 6, none⟩ = some (.slice none 0 0) := (hg2.cell c6 (by simp))
      clear hrg2 hg2 hs2 c5 c6 c7 hrn
      go_loopw [8] (fun _ wx => ∃ (left2 : Lit → Bool) (cnt2 : Nat), cnt2 = 0 ∧ Hid (wx.ranges Ybaf.prog 3 (plainElem (H := Unit) Ybaf.prog 4) dl wr.heap.size 0 (.map []) left2 cnt2) ∧ Hid (wx = w2)) (fun _ _ => 0)
      case atStart => exact ⟨_, _, rfl, HR2, rfl⟩
      case round =>
        obtain ⟨left2, cnt2, rfl, hrg2, hw2⟩ := hrel
        have hw2' := hw2.out
        subst hw2'
        go_wp2_with (at_next; refine wpList_next_ranges _ rfl _ rfl 3 Ybaf.law3 (plainElem (H := Unit) Ybaf.prog 4) (Value.int .i64) Value.bool intK_inv boolV_inv dl _ 0 _ _ _ rfl hrg2.out ?_ ?_)
        · intro _
          go_wp2_with fail
          go_loopw [107] (fun i wx => i = .int .i64 0 ∧ Hid (wx = wr)) (fun _ _ => 0)
          case atStart => exact ⟨rfl, rfl⟩
          case round =>
            obtain ⟨rfl, hw3⟩ := hrel
            have hw3' := hw3.out
            subst hw3'
            go_wp2_with fail
            go_end0
            refine ⟨rfl, ?_, ?_, HG2.out⟩
            · have h1 := HSB.out
              have h2 := HB2.out
              exact ⟨h2.os.trans h1.os, h2.tape.trans h1.tape, h2.output.trans h1.output, Nat.le_trans h1.size h2.size, fun b hb hne => (h2.block b (Nat.lt_of_lt_of_le hb h1.size) (fun e => hne (by simp at e ⊢; exact .inr e))).trans (h1.block b hb hne)⟩
            · exact HB2.out.row HS6.out (by simpa using hng)
    · intro xs c kl y1 yp w1 cnt1 hkey hlk hR hat hrg1 hlt hg1 hs1 hen
      obtain ⟨rfl, hy⟩ := dG_at hat
      have hpv : ptrV c = .pointer (some ⟨g, 0, none⟩) := ptrElem_inv (b := g) (ps := yp) (by rw [hR, hy])
      obtain rfl : c = some g := by
        cases c with
        | none => simp [ptrV] at hpv
        | some b => simp [ptrV] at hpv; rw [hpv]
      have hen' : (Instr.entry (.pointer (some ⟨wS.heap.size, 0, none⟩))).run Ybaf.prog w1 = .ok (.tuple #[.string xs, .pointer (some ⟨g, 0, none⟩)]) w1 := hen
      rw [hlk, sv_on] at hgr
      have hgS : g < wS.heap.size := HSg.out.lt
      have hgr1 := hgr.out.kept hg1 (by simp; omega)
      have hbu1 : But [g] wS w1 := hbu.out.after hg1 (fun k e => by cases e; exact .inr (Nat.le_refl _))
      have hmem1 := hbu1.own HSM.out (by
        intro b hb cur e
        simp at hb
        subst hb
        have := HSg.out
        unfold RowT at this
        rw [this] at e
        cases e)
      have HMB := member_any mm n t ao mc hn (by omega) w1 hmem1
      rw [show (decide (t < n) && bitN mm t) = bitN mm t by simp [ht]] at HMB
      have HMB := hide HMB
      have g0 : w1.cell? ⟨g, 0, none⟩ = some (.slice ao (memN mm n).length mc) := hgr1.cell 0
      have HG1 := hide hgr1
      have HB1 := hide hbu1
      have HR1 := hide hrg1
      have hm0 : m 0 ≠ g := by have := HSg.out.neMap HSG.out; omega
      have hstrike : (fun z : Lit => left z && !z.sameKey kG) kG = false := by simp [kG, Lit.sameKey]
      have hsl4 := survN_le mm cm n
      clear hgr1 hbu1 hmem1 hrg1 hen hR hat hkey hpv hy
      go_wp2_with fail
      refine (HMB.out).mono ?_
      rintro e w2 ⟨rfl, hb2⟩
      have g1 : w2.cell? ⟨g, 1, none⟩ = some (.int .i64 (survN mm cm n)) := (hb2.cell (p := ⟨g, 1, none⟩) HG1.out.lt).trans (HG1.out.cell 1)
      have fg : w2.frozen? ⟨g, 1, none⟩ = false := (hb2.frozen (p := ⟨g, 1, none⟩) HG1.out.lt).trans (HG1.out.frozen 1)
      have HG2 : Hid (RowT w2 30 g [.slice ao (memN mm n).length mc, .int .i64 (survN mm cm n)]) := (hb2.block g HG1.out.lt).trans HG1.out
      have hgb2 : w1.grownBy w2 none := ⟨hb2.os, hb2.tape, hb2.output, hb2.size, fun k hk _ => hb2.block k hk⟩
      have HR2 := hide (HR1.out.kept hgb2 (by simp) (by simp))
      have HB2 := hide (HB1.out.under hb2)
      clear hb2 hgb2 HMB g0
      cases hm : bitN mm t with
      | true =>
        have gs2 := grownBy_setCell w2 g 1 (.int .i64 ((survN mm cm n : Int) - 1))
        have HG3 : Hid (RowT (w2.setCell ⟨g, 1, none⟩ (.int .i64 ((survN mm cm n : Int) - 1))) 30 g [.slice ao (memN mm n).length mc, .int .i64 (svN mm cm n t false)]) := by rw [sv_off_on hm]; exact HG2.out.set 1 _
        have HR3 := hide (HR2.out.kept gs2 (by simpa using hm0) (by simp; omega))
        have HB3 : Hid (But [g] wS _) := HB2.out.after gs2 (fun k e => by cases e; simp)
        clear gs2
        go_wp2_with fail
        go_roundw
        case rel => exact ⟨_, cnt1, HR3, by rw [hstrike]; exact HG3, HB3⟩
        case measure => rw [HR3.out.left_eq, hrg.out.left_eq]; omega
      | false =>
        go_wp2_with fail
        go_roundw
        case rel => exact ⟨_, cnt1, HR2, by rw [hstrike, sv_off_off hm]; exact HG2, HB2⟩
        case measure => rw [HR2.out.left_eq, hrg.out.left_eq]; omega

end Go.Proofs.YbulkczjkFmt
