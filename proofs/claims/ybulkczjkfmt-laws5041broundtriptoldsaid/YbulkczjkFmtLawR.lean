/-
  LawS5041BRoundTrip: walked.
-/
import Derived.Test.YbulkczjkFmtReadS
namespace Go.Proofs.YbulkczjkFmt
open Go.RowKit

theorem tip_nil (w : World) : Tip w none w (.slice none 0 0) 0 [] :=
  ⟨World.grownBy.refl _ _, rfl, .inl ⟨none, rfl, fun _ => rfl, fun b hb => by cases hb⟩⟩

/-- 'append(enc, tail...)', enc the call's own. -/
theorem wpList_many {P : Program} {W w : World} {v : Value} {n : Nat} {xs : List Value} (h : TipO W none w v n xs) {ops : Array Oper} {rest : List Oper} {o : Oper} {a : Act} {Q : Exit → Act → World → Prop}
    (hgd : o.guard = none) (s x : Operand) (t : TypeId) (ho : o.op = Op.call { callee := Callee.builtin Builtin.append, args := #[s, x], argTypes := #[t, t] })
    (i : TypeInfo) (h1 : P.underlying t = some (.slice 5)) (h2 : P.info? 5 = some i) (h3 : i.zero = some (.int .u8 0)) (h4 : i.size = 1) (h5 : i.bytes = 1)
    (ao : Option Addr) (c : Nat) (L : List UInt8) (hv : ViewB w ao L.length L) (hc0 : ao = none → c = 0) (hs : a.eval s = v) (hx : a.eval x = .slice ao L.length c) (hlim : n + L.length ≤ 140737488355328)
    (hK : ∀ v' w', TipO W none w' v' (n + L.length) (xs ++ Lib.byteCells L) → wpList P ops Q rest (a.put o.dst v') w') : wpList P ops Q (o :: rest) a w := by
  obtain ⟨g, cap, rfl, hown, hrow⟩ := h.val
  have hg : W.heap.size ≤ g := by
    rcases hrow with h | h
    · cases h
    · exact h
  have hl : (Lib.byteCells L).length = L.length := Lib.byteCells_length L
  have hsz := h.grown.size
  by_cases hfit : n + L.length ≤ cap
  · refine wpList_append_fits_any w hgd s x t ho 0 5 i 1 h1 h2 h4 g n cap xs hs hown ao L.length c (Lib.byteCells L) hx (by rw [hl, Nat.mul_one]) (fun e => ⟨?_, hc0 e⟩) (fun ad e => tail_cells (by rw [e] at hv; exact hv)) (byteCells_one L) hfit ?_
    · rcases Nat.eq_zero_or_pos L.length with h0 | h0
      · exact h0
      · obtain ⟨_, _, e', _⟩ := hv.2 h0; rw [e] at e'; cases e'
    · intro w' hown' hg'
      exact hK _ w' ⟨grownBy_then h.grown hg' (fun k e => by cases e; exact .inr hg), by rw [List.length_append, h.len, hl], g, cap, rfl, hown', .inr hg⟩
  · have hle : n ≤ cap := by
      rcases hown.2 with ⟨h', _⟩ | ⟨g', cap', cur, h', _, _, hn, _⟩
      · cases h'
      · cases h'; exact hn
    obtain ⟨b, off, e, hb, hcs⟩ := hv.2 (by omega)
    subst e
    refine wpList_append_grows w hgd s x t ho 5 i (.int .u8 0) 1 1 h1 h2 h3 h4 h5 rfl (by decide) (some ⟨g, 0, none⟩) n cap xs hs (fun e => by cases e) (by rw [h.len, Nat.mul_one]) (fun b hb j y hj => by cases hb; exact hown.cells (g := g) rfl j y hj) ⟨b, off, none⟩ L.length c (Lib.byteCells L) hx (by rw [hl, Nat.mul_one]) (tail_cells hv) (byteCells_one L) (by omega) (by unfold maxLen; omega) (by omega) ?_
    intro v' w' hown' hg'
    refine hK v' w' ⟨grownBy_trans h.grown hg', by rw [List.length_append, h.len, hl], ?_⟩
    rcases hown'.2 with ⟨_, h0⟩ | ⟨g', cap', cur, e', hb', _⟩
    · omega
    · exact ⟨g', cap', e', owns_weaken hown', .inr (by omega)⟩

theorem TipO.reads {W w : World} {row : Option Nat} {v : Value} {n : Nat} {l : List UInt8} (h : TipO W row w v n (Lib.byteCells l)) : RestIs w w.heap.size v l := by
  obtain ⟨g, cap, rfl, hown, _⟩ := h.val
  have hn : l.length = n := by rw [← h.len, Lib.byteCells_length]
  subst hn
  have hlt := (hown.lt g rfl).2
  have hcells := hown.cells (g := g) rfl
  rcases hown.2 with ⟨h', _⟩ | ⟨g', cap', cur, h', _, _, hle, hmx, _⟩
  · cases h'
  · simp only [Value.slice.injEq, Option.some.injEq, Addr.mk.injEq, and_true, true_and] at h'
    obtain ⟨rfl, rfl⟩ := h'
    refine ⟨_, _, rfl, hle, hmx, fun _ => ⟨g, 0, rfl, hlt, fun j hj => ?_⟩⟩
    have := hcells j (.int .u8 (l[j]).toNat) (by simp [Lib.byteCells, hj])
    rw [Addr.add_lit] at this
    exact this

theorem RestIs.view {w : World} {N : Nat} {rv : Value} {l : List UInt8} (h : RestIs w N rv l) (hN : N ≤ w.heap.size) : ∃ ao c, rv = .slice ao l.length c ∧ ViewB w ao l.length l := by
  obtain ⟨ao, c, e, _, _, h3⟩ := h
  refine ⟨ao, c, e, rfl, fun h0 => ?_⟩
  obtain ⟨bk, o, e1, e2, e3⟩ := h3 (by intro e; rw [e] at h0; simp at h0)
  exact ⟨bk, o, e1, Nat.lt_of_lt_of_le e2 hN, e3⟩

/-- What the law makes of the pairs that came in. -/
def stA (al : Nat → Nat) (i : Nat) : Nat := al i % 4611686018427387905
def stC (al ca : Nat → Nat) (i : Nat) : Nat := stA al i - ca i % (stA al i + 1)

theorem stA_le (al : Nat → Nat) (i : Nat) : stA al i ≤ 4611686018427387904 := by unfold stA; omega
theorem stL_le (al ca : Nat → Nat) (i : Nat) : ca i % (stA al i + 1) ≤ stA al i := by
  have := Nat.mod_lt (ca i) (show 0 < stA al i + 1 by omega)
  omega
theorem stA_int (al : Nat → Nat) (i : Nat) : ((al i : Nat) : Int) % 4611686018427387905 = (stA al i : Int) := by unfold stA; omega
theorem stC_int (al ca : Nat → Nat) (i : Nat) : IntKind.u64.wrap (((al i : Nat) : Int) % 4611686018427387905 - ((ca i : Nat) : Int) % (((al i : Nat) : Int) % 4611686018427387905 + 1)) = (stC al ca i : Int) := by
  have h1 := stL_le al ca i
  have h2 := stA_le al i
  rw [stA_int, IntKind.wrap_u64, stC]
  have h3 : ((ca i : Nat) : Int) % ((stA al i : Int) + 1) = ((ca i % (stA al i + 1) : Nat) : Int) := by rw [Int.natCast_emod, Int.natCast_add]; rfl
  rw [h3]
  omega
theorem st_wf (m : Nat) (al ca : Nat → Nat) : WfP m (stA al) (stC al ca) := fun i _ => ⟨stA_le al i, by unfold stC; omega⟩

set_option maxRecDepth 100000 in
set_option maxHeartbeats 3200000 in
theorem rt_any (ao sa : Option Addr) (cap m sc : Nat) (L : List UInt8) (al ca : Nat → Nat) (w : World) (hL : L.length ≤ 1024) (hm : m ≤ 1024) (hv : ViewB w ao L.length L) (hc0 : ao = none → cap = 0) (hp : Pairs w sa m al ca) :
    Calls Ybaf.prog 5 #[.slice sa m sc, .slice ao L.length cap] w fun e w' => e = .returned (.bool true) ∧ Below w.heap.size w w' := by
  have HV := hide hv
  have HP := hide hp
  have HC0 := hide hc0
  clear hv hp hc0
  have d1 : decide ((1024 : Int) < (L.length : Int)) = false := by simp; omega
  have d2 : decide ((1024 : Int) < (m : Int)) = false := by simp; omega
  obtain ⟨i5, hi5, hz50, hz51, hz52⟩ := info_parts Ybaf.info5
  obtain ⟨i9, hi9, hz90, hz91, hz92⟩ := info_parts Ybaf.info57
  go_enter Ybaf.func5, Ybaf.ntmps5
  go_wp2_with (at_make; refine wpList_make_full _ rfl (.tmp 24) (.tmp 24) 52 rfl 0 57 i9 (.agg #[.int .u64 0, .int .u64 0]) 2 Ybaf.underlying52 hi9 hz90 hz91 .i64 .i64 m m m rfl rfl rfl rfl ?c4 ?c5 ?c6 ?_)
  case c4 => rw [hz92]; omega
  case c5 => unfold maxLen; omega
  case c6 => exact Nat.zero_le _
  intro w3 hown3 hgr3
  rw [st_made (stA al) (stC al ca)] at hown3
  have HB3 : Hid (Below w.heap.size w w3) := Below.grown (Below.refl _ _) hgr3 (Nat.le_refl _) (fun k hk => by cases hk)
  have HS3 := hide (own_full2 hown3)
  clear hown3 hgr3 hi9 hz90 hz91 hz92
  go_wp2_with fail
  go_loopw [28] (fun i wr => ∃ k : Nat, k ≤ m ∧ i = .int .i64 k ∧ Hid (RowS wr w.heap.size (stCells (stA al) (stC al ca) m k)) ∧ Hid (Below w.heap.size w wr)) (fun i _ => m - (intOf i).toNat)
  case atStart => exact ⟨0, Nat.zero_le _, rfl, HS3, HB3⟩
  case round =>
    obtain ⟨k, hk, rfl, hrow, hbel⟩ := hrel
    clear HS3 HB3
    by_cases hlt : k < m
    · have hbw := hbel.out
      obtain ⟨b, o, rfl, hblt, hcs⟩ := HP.out.at_ (by omega)
      obtain ⟨hla, hlc⟩ := HP.out.lt k hlt
      obtain ⟨hc0, hc1⟩ := hcs k hlt
      have hc0' := (hbw.cell (p := ⟨b, o + k * 2, none⟩) hblt).trans hc0
      have hc1' := (hbw.cell (p := ⟨b, o + k * 2 + 1, none⟩) hblt).trans hc1
      obtain ⟨v0, hv0⟩ : ∃ v0, wr.cell? ⟨w.heap.size, k * 2, none⟩ = some v0 := ⟨_, by rw [hrow.out.cell, List.getElem?_eq_getElem (by rw [st_len _ _ m k hk]; omega)]⟩
      obtain ⟨v1, hv1⟩ : ∃ v1, wr.cell? ⟨w.heap.size, k * 2 + 1, none⟩ = some v1 := ⟨_, by rw [hrow.out.cell, List.getElem?_eq_getElem (by rw [st_len _ _ m k hk]; omega)]⟩
      have f0 := hrow.out.frozen (k * 2)
      have f1 := hrow.out.frozen (k * 2 + 1)
      have hsz : w.heap.size < wr.heap.size := (Array.getElem?_eq_some_iff.1 hrow.out).1
      clear hcs hc0 hc1 hbw
      go_wp2_with fail
      rw [stC_int, stA_int]
      go_roundw
      case rel =>
        refine ⟨k + 1, by omega, by go_num, RowS.alloc ?_ _, ?_⟩
        · rw [← st_step _ _ m k hlt]
          exact (hrow.out.set _ _).set _ _
        · exact ((hbel.out.setCell (Nat.le_refl _) _).setCell (Nat.le_refl _) _).alloc (by simp [World.setCell]; omega) _
      case measure => simp [intOf]; omega
    · obtain rfl : m = k := by omega
      clear hlt hk
      have HWF := hide (st_wf m al ca)
      have hlt64 : ∀ i, i < m → stA al i < 18446744073709551616 ∧ stC al ca i < 18446744073709551616 := fun i _ => by
        have h1 := stA_le al i
        exact ⟨by omega, by unfold stC; omega⟩
      have hel := encS_le m (stA al) (stC al ca) hm m (Nat.le_refl _) hlt64
      have HST := hide (stamp_any (some ⟨w.heap.size, 0, none⟩) m m 0 (stA al) (stC al ca) hm _ _ wr (tip_nil wr) (hrow.out.pairs hlt64) (by omega))
      clear hlt64
      generalize stA al = sA at *
      generalize stC al ca = sC at *
      go_wp2_with fail
      refine (HST.out).mono ?_
      rintro e w4 ⟨v4, rfl, ht4⟩
      have HT4 := hide ht4
      have HB4 := hide (below_of_none ht4.grown)
      have HV4 := hide ((HV.out.later hbel.out).later (below_of_none ht4.grown))
      clear ht4 HST
      go_wp2_with (at_builtin; refine wpList_many HT4.out rfl (.tmp 52) (.tmp 53) 51 rfl i5 Ybaf.underlying51 hi5 hz50 hz51 hz52 ao cap L HV4.out HC0.out rfl rfl (by omega) ?_)
      intro v5 w5 ht5
      have HT5 : Hid (TipO wr none w5 v5 _ (Lib.byteCells (encS m sA sC m ++ L))) := tip_cast ht5 rfl (by rw [byteCells_append])
      have HB5 := hide (below_of_none ht5.grown)
      have HRD := hide (readSt w5.heap.size m sA sC hm HWF.out L v5 w5 (Nat.le_refl _) HT5.out.reads)
      have HS5 := hide (hrow.out.later HB5.out)
      have HW5 := hide (hbel.out.trans (HB5.out.mono hbel.out.size))
      clear ht5 HT4 HB4 HV4 HT5 hi5 hz50 hz51 hz52
      go_wp2_with fail
      refine (HRD.out).mono ?_
      rintro e w6 ⟨g, rv6, rfl, hb6, hr6, hs6⟩
      obtain ⟨ao6, c6, rfl, hv6⟩ := hr6.view hb6.size
      have HS6 := hide (HS5.out.later hb6)
      have HG6 := hide hs6
      have HV6 := hide hv6
      have HW6 := hide (HW5.out.trans (hb6.mono HW5.out.size))
      clear hb6 hr6 hs6 hv6 HRD HS5 HW5 HB5
      go_wp2_with fail
      go_loopw [70] (fun i wx => ∃ k : Nat, k ≤ m ∧ i = .int .i64 k ∧ Hid (Below w6.heap.size w6 wx)) (fun i _ => m - (intOf i).toNat)
      case atStart => exact ⟨0, Nat.zero_le _, rfl, Below.refl _ _⟩
      case round =>
        obtain ⟨k, hk, rfl, hbl⟩ := hrel
        by_cases hlt : k < m
        · have hst := HS6.out.later hbl.out
          have hgt := HG6.out.later hbl.out
          obtain ⟨s0, s1⟩ := st_at sA sC m m k hlt
          have hs0 : wr.cell? ⟨w.heap.size, k * 2, none⟩ = some (.int .u64 (sA k)) := (hst.cell _).trans s0
          have hs1 : wr.cell? ⟨w.heap.size, k * 2 + 1, none⟩ = some (.int .u64 (sC k)) := (hst.cell _).trans s1
          have hg0 : wr.cell? ⟨g, k * 2, none⟩ = some (.int .u64 (sA k)) := (hgt.cell _).trans s0
          have hg1 : wr.cell? ⟨g, k * 2 + 1, none⟩ = some (.int .u64 (sC k)) := (hgt.cell _).trans s1
          have hlt' : (k : Int) < (m : Int) := by omega
          clear s0 s1 hst hgt
          go_wp2_with fail
          go_quiet (fail)
          go_wp2_with fail
          go_roundw
          case rel => exact ⟨k + 1, by omega, by go_num, below_drewN hbl.out _⟩
          case measure => simp [intOf]; omega
        · obtain rfl : m = k := by omega
          have HW7 := hide (HW6.out.trans (hbl.out.mono HW6.out.size))
          have HEQ := hide (equal_any _ _ _ wr (conv_view (c := c6) (HV6.out.later hbl.out)) (conv_view (c := cap) (HV.out.later HW7.out)))
          go_wp2_with fail
          refine (HEQ.out).mono ?_
          rintro e w' ⟨rfl, hw'⟩
          obtain rfl := hw'.symm
          go_wp2_with fail
          go_ret
          exact ⟨rfl, HW7.out⟩

set_option maxHeartbeats 400000 in
theorem rt_big (ao sa : Option Addr) (n cap m sc : Nat) (w : World) (h : 1024 < n ∨ 1024 < m) :
    Calls Ybaf.prog 5 #[.slice sa m sc, .slice ao n cap] w fun e w' => e = .returned (.bool true) ∧ Below w.heap.size w w' := by
  by_cases h1 : (1024 : Int) < (m : Int)
  · clear h
    go_enter Ybaf.func5, Ybaf.ntmps5
    go_wp2
    go_ret
    exact ⟨rfl, Below.refl _ _⟩
  · have h2 : (1024 : Int) < (n : Int) := by omega
    clear h
    go_enter Ybaf.func5, Ybaf.ntmps5
    go_wp2
    go_ret
    exact ⟨rfl, Below.refl _ _⟩

end Go.Proofs.YbulkczjkFmt
