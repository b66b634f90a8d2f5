/-
  LawS5037BRoundTrip: walked.
-/
import Derived.Test.YbulkczhgDoorRound
import Derived.Laws.AppendOwnNone
import Derived.Deep.QuietTactic
import Derived.BigQuiet
namespace Go.Proofs.YbulkczhgDoor
open Go.RowKit

/-- A slice of integers that came in: its elements. -/
def ViewI (k : IntKind) (w : World) (ao : Option Addr) (n : Nat) (zs : List Int) : Prop :=
  zs.length = n ∧ (0 < n → ∃ b o, ao = some ⟨b, o, none⟩ ∧ b < w.heap.size ∧ ∀ i, i < n → w.cell? ⟨b, o + i, none⟩ = some (.int k (zs.getD i 0)))

/-- A slice of bytes that came in. -/
def ViewB (w : World) (ao : Option Addr) (n : Nat) (tl : List UInt8) : Prop :=
  tl.length = n ∧ (0 < n → ∃ b o, ao = some ⟨b, o, none⟩ ∧ b < w.heap.size ∧ ∀ i (hi : i < tl.length), w.cell? ⟨b, o + i, none⟩ = some (.int .u8 (tl[i]).toNat))

/-- What has been written behind k rounds. -/
def encTo (zs : List Int) (k : Nat) : List UInt8 := Lib.uvarint zs.length ++ encL ((zs.map m63).take k)

theorem encTo_le (zs : List Int) (k : Nat) (hz : zs.length ≤ 1024) : (encTo zs k).length ≤ 10 + 10 * k := by
  have h1 := Lib.uvarint_length64 (x := zs.length) (by omega)
  have h2 := encL_le ((zs.map m63).take k) (fun x hx => by
    obtain ⟨z, _, rfl⟩ := List.mem_map.1 (List.mem_of_mem_take hx)
    exact m63_le z)
  have h3 : ((zs.map m63).take k).length ≤ k := List.length_take_le _ _
  unfold encTo
  rw [List.length_append]
  omega

theorem encTo_succ (zs : List Int) (k : Nat) (hk : k < zs.length) : encTo zs (k + 1) = encTo zs k ++ Lib.uvarint (m63 (zs.getD k 0)) := by
  have hm : k < (zs.map m63).length := by simpa using hk
  unfold encTo encL
  rw [List.take_succ_eq_append_getElem hm]
  simp [List.getD_eq_getElem?_getD, hk]

theorem byteCells_append (a b : List UInt8) : Lib.byteCells (a ++ b) = Lib.byteCells a ++ Lib.byteCells b := by simp [Lib.byteCells]

theorem Ybad.info5 : (Ybad.prog.info? 5).map (fun i => (i.zero, i.size, i.bytes)) = some (some (.int .u8 0), 1, 1) := by kernel_rfl

/-- The whole of what was written, and what holds behind the last append. -/
def WroteRel (w : World) (L : List UInt8) (v : Value) (wr : World) : Prop :=
  wr.ownsRow w.heap.size 5 1 v L.length (Lib.byteCells L) ∧ Below w.heap.size w wr

theorem byteCells_one (l : List UInt8) : ∀ u ∈ Lib.byteCells l, u.oneCell' = true := by
  intro u hu
  obtain ⟨b, _, rfl⟩ := List.mem_map.1 hu
  rfl

theorem tail_cells {w wr : World} {ad : Addr} {n : Nat} {tl : List UInt8} (h : ViewB w (some ad) n tl) (hb : Below w.heap.size w wr) :
    ∀ j u, (Lib.byteCells tl)[j]? = some u → wr.cell? (ad.add j) = some u := by
  intro j u hj
  obtain ⟨hl, hc⟩ := h
  have hjl : j < tl.length := by
    by_cases hh : j < tl.length
    · exact hh
    · rw [List.getElem?_eq_none (by rw [Lib.byteCells_length]; omega)] at hj; cases hj
  obtain ⟨b, o, e, hbw, hcc⟩ := hc (by omega)
  cases e
  have hadd : (⟨b, o, none⟩ : Addr).add j = ⟨b, o + j, none⟩ := by simp [Addr.add]
  rw [hadd, hb.cell (by exact hbw), hcc j hjl]
  simp only [Lib.byteCells, List.getElem?_map, List.getElem?_eq_getElem hjl, Option.map_some] at hj
  exact hj

theorem own_shape {wr : World} {B : Nat} {L : List UInt8} {v : Value} (h : wr.ownsRow B 5 1 v L.length (Lib.byteCells L)) (hL : 0 < L.length) :
    ∃ g cap, v = .slice (some ⟨g, 0, none⟩) L.length cap ∧ B ≤ g ∧ g < wr.heap.size ∧ L.length ≤ cap ∧ cap ≤ maxLen ∧ ∀ j (hj : j < L.length), wr.cell? ⟨g, 0 + j, none⟩ = some (.int .u8 (L[j]).toNat) := by
  rcases h.2 with ⟨_, h0⟩ | ⟨g, cap, cur, rfl, hb, hg, h1, h2, _, _⟩
  · omega
  · refine ⟨g, cap, rfl, hb, (Array.getElem?_eq_some_iff.1 hg).1, h1, h2, fun j hj => ?_⟩
    have := h.cells (g := g) rfl j (.int .u8 (L[j]).toNat) (by simp [Lib.byteCells, hj])
    rw [Nat.zero_add]
    have hadd : (⟨g, 0, none⟩ : Addr).add j = ⟨g, j, none⟩ := by unfold Addr.add; split <;> simp_all
    rw [hadd] at this
    exact this

theorem encTo_pos (zs : List Int) (k : Nat) : 0 < (encTo zs k).length := by
  have := Lib.uvarint_pos zs.length
  unfold encTo
  rw [List.length_append]
  omega

/-- The world behind the box: body stands. -/
theorem body_new {w w2 : World} {kd : Int} {a0 a1 : Addr} {L : List UInt8} {g2 cap2 : Nat} (hb : Below w.heap.size w w2) (hv : Vars w a0 a1)
    (h1 : g2 < w2.heap.size) (h2 : L.length ≤ cap2) (h3 : cap2 ≤ maxLen) (h4 : ∀ j (hj : j < L.length), w2.cell? ⟨g2, 0 + j, none⟩ = some (.int .u8 (L[j]).toNat)) :
    Body (w2.alloc (.cells #[.int .u8 kd, .slice (some ⟨g2, 0, none⟩) L.length cap2, .nilIface] 39)) w2.heap.size w2.heap.size kd a0 a1 L 0 false := by
  have hsz := hb.size
  have e1 := World.block_lt_of_cell? w ⟨1, 0, none⟩ hv.v1
  have hc : ∀ (a : Addr) (v : Value), a.block < w2.heap.size → w2.cell? a = some v → (w2.alloc (.cells #[.int .u8 kd, .slice (some ⟨g2, 0, none⟩) L.length cap2, .nilIface] 39)).cell? a = some v := fun a v hlt h =>
    (World.cell?_of_block (Below.heap_alloc w2 _ a.block hlt)).trans h
  have e1' : 1 < w.heap.size := e1
  refine ⟨⟨_, heap_alloc_new w2 _, ⟨some ⟨g2, 0, none⟩, cap2, rfl, h2, h3, fun _ => ⟨g2, 0, rfl, by omega, h1, fun j hj => hc _ _ h1 (h4 j hj)⟩⟩, fun h => by cases h⟩, ⟨?_, ?_⟩, by omega, by omega⟩
  · exact hc _ _ (by simp; omega) ((hb.cell (by simp; omega)).trans hv.v0)
  · exact hc _ _ (by simp; omega) ((hb.cell (by simp; omega)).trans hv.v1)

/-- At the first loop's head. -/
def TripRel (w : World) (zs : List Int) (k : Nat) (v : Value) (wr : World) : Prop :=
  wr.ownsRow w.heap.size 5 1 v (encTo zs k).length (Lib.byteCells (encTo zs k)) ∧ Below w.heap.size w wr

theorem TripRel.start {w w1 : World} {zs : List Int} {v : Value} {n : Nat} (hn : zs.length = n) (h : w1.ownsRow w.heap.size 5 1 v (0 + (Lib.uvarint n).length) ([] ++ Lib.byteCells (Lib.uvarint n))) (hb : Below w.heap.size w w1) :
    TripRel w zs 0 v w1 := by
  subst hn
  have e : encTo zs 0 = Lib.uvarint zs.length := by simp [encTo, encL]
  unfold TripRel
  rw [e]
  exact ⟨by simpa using h, hb⟩

theorem TripRel.step {w wr w1 : World} {zs : List Int} {k : Nat} {v v1 : Value} (h : TripRel w zs k v wr) (hk : k < zs.length)
    (h1 : w1.ownsRow w.heap.size 5 1 v1 ((encTo zs k).length + (Lib.uvarint (m63 (zs.getD k 0))).length) (Lib.byteCells (encTo zs k) ++ Lib.byteCells (Lib.uvarint (m63 (zs.getD k 0))))) (hb : Below w.heap.size wr w1) :
    TripRel w zs (k + 1) v1 w1 := by
  unfold TripRel
  rw [encTo_succ zs k hk, byteCells_append, List.length_append]
  exact ⟨h1, h.2.trans hb⟩

/-- What accounts leaves, as the rest of the walk wants it. -/
theorem after_acc {w wr w3 : World} {O : Obj} {kd : Int} {a0 a1 : Addr} {tl : List UInt8} {nl : Bool} (hb : Below w.heap.size w wr) (hB : Body w3 wr.heap.size wr.heap.size kd a0 a1 tl 0 nl) (hg : (wr.alloc O).grownBy w3 (some wr.heap.size)) :
    Below w.heap.size w w3 ∧ w3.cell? ⟨wr.heap.size, 0, none⟩ = some (.int .u8 kd) ∧ w3.cell? ⟨wr.heap.size, 2, none⟩ = some .nilIface ∧
    ∃ ao c, w3.cell? ⟨wr.heap.size, 1, none⟩ = some (.slice ao tl.length c) ∧ (0 < tl.length → ∃ bk o, ao = some ⟨bk, o, none⟩ ∧ ∀ j (hj : j < tl.length), w3.cell? ⟨bk, o + j, none⟩ = some (.int .u8 (tl[j]).toNat)) := by
  obtain ⟨⟨rv, h1, ⟨ao, c, rfl, _, _, h2⟩, _⟩, _, _, _⟩ := hB
  obtain ⟨c0, c1, c2, _, _⟩ := body_cells h1
  have hsz := hb.size
  refine ⟨?_, c0, c2, ao, c, c1, fun hp => ?_⟩
  · refine Below.grown (Below.alloc hb (by omega) O) hg (by simp; omega) (fun k hk => ?_)
    cases hk; exact hsz
  · obtain ⟨bk, o, e, _, _, hc⟩ := h2 (by intro h; simp [h] at hp)
    exact ⟨bk, o, e, hc⟩

theorem cellsI_get {ms : List Nat} {j : Nat} (h : j < ms.length) : (cellsI ms)[j]? = some (.int .i64 ((ms.getD j 0 : Nat) : Int)) := by
  simp [cellsI, h]

set_option maxRecDepth 100000 in
set_option maxHeartbeats 1600000 in
theorem rt_any (va ta : Option Addr) (vlen vcap tlen tcap : Nat) (zs : List Int) (tl : List UInt8) (kd : Int) (a0 a1 : Addr) (w : World)
    (hvl : vlen ≤ 1024) (htl : tlen ≤ 1024) (hv : ViewI .u64 w va vlen zs) (hz : ∀ z ∈ zs, 0 ≤ z ∧ z < 18446744073709551616)
    (ht : ViewB w ta tlen tl) (htn : ta = none → tlen = 0 ∧ tcap = 0) (hvars : Vars w a0 a1) :
    Calls Ybad.prog 5 #[.slice va vlen vcap, .slice ta tlen tcap, .int .u8 kd] w fun e w' => e = .returned (.bool true) ∧ Below w.heap.size w w' := by
  obtain rfl := hv.1
  obtain rfl := ht.1
  have HV := hide hv
  have HT := hide ht
  have HZ := hide hz
  have HVR := hide hvars
  have HTN := hide htn
  clear hv ht hz hvars htn
  have d1 : decide ((1024 : Int) < (zs.length : Int)) = false := by simp; omega
  have d2 : decide ((1024 : Int) < (tl.length : Int)) = false := by simp; omega
  go_enter Ybad.func5, Ybad.ntmps5
  go_wp2_with (first | (go_at_call 12; refine (Ybad.binary_AppendUvarint w.heap.size 0 zs.length (by omega) _ [] w (World.ownsRow_nil _ _ _ _) (Nat.le_refl _) (by omega)).mono ?_; rintro e w1 ⟨v1, rfl, hown, hbel⟩; have HR := hide (TripRel.start HV.out.1 hown hbel); clear hown hbel))
  go_loopw [7, 8] (fun v i wr => ∃ k : Nat, k ≤ zs.length ∧ i = .int .i64 k ∧ Hid (TripRel w zs k v wr)) (fun _ i _ => zs.length - (intOf i).toNat)
  case atStart => exact ⟨0, Nat.zero_le _, rfl, HR⟩
  case round =>
    obtain ⟨k, hk, rfl, hrel⟩ := hrel
    clear HR
    by_cases hlt : k < zs.length
    · obtain ⟨b, o, rfl, hbw, hcs⟩ := HV.out.2 (by omega)
      obtain ⟨z, hze⟩ : ∃ z, z = zs.getD k 0 := ⟨_, rfl⟩
      have hck : wr.cell? ⟨b, o + k, none⟩ = some (.int .u64 z) := by rw [hze]; exact (hrel.out.2.cell (by exact hbw)).trans (hcs k hlt)
      have hzk := HZ.out z (by rw [hze, List.getD_eq_getElem?_getD, List.getElem?_eq_getElem hlt]; simp)
      have hand := and63 z hzk.1 hzk.2
      have hel := encTo_le zs k (by omega)
      have hap := hide (Ybad.binary_AppendUvarint w.heap.size (encTo zs k).length (m63 z) (by have := m63_le z; omega) _ _ wr hrel.out.1 hrel.out.2.size (by omega))
      have HZE := hide hze
      clear hcs hze
      go_wp2_with (first | (go_at_call 12; refine (hap.out).mono ?_; rintro e w2 ⟨v2, rfl, hown, hbel⟩; have HO2 := hide hown; have HB2 := hide hbel; clear hown hbel))
      go_roundw
      case rel =>
        have h1 := HO2.out
        rw [HZE.out] at h1
        exact ⟨k + 1, by omega, by go_num, TripRel.step hrel.out hlt h1 HB2.out⟩
      case measure => simp [intOf]; omega
    · obtain rfl : zs.length = k := by omega
      clear hlt hk
      obtain ⟨i5, hi5, hz50, hz51, hz52⟩ := info_parts Ybad.info5
      have hel := encTo_le zs zs.length (by omega)
      have hep := encTo_pos zs zs.length
      have HA : ∀ L, L = encTo zs zs.length ++ tl → accF L 0 = (zs.map m63, tl, 0, false) := by
        rintro L rfl
        have := accF_enc (zs.map m63) (fun x hx => by obtain ⟨y, _, rfl⟩ := List.mem_map.1 hx; exact m63_le y) (by simp; omega) tl
        rw [List.length_map] at this
        rw [← this]
        congr 1
        unfold encTo
        rw [List.take_of_length_le (by simp)]
        simp
      have HA := hide HA
      rcases ta with _ | ad
      case' none =>
        obtain ⟨htl0, rfl⟩ := HTN.out rfl
        have HTL := hide htl0
        clear htl0
        obtain ⟨g2, cap2, hve, q1, q2, q3, q4, q5⟩ := own_shape hrel.out.1 hep
        have HO := hide hrel.out.1
        have HB := hide hrel.out.2
        clear hrel
        subst hve
        have HBD := hide (acc_any _ _ kd a0 a1 _ 0 false _ (body_new (kd := kd) HB.out HVR.out q2 q3 q4 q5) (by omega) (by simp))
        rw [HA.out _ (by rw [List.length_eq_zero_iff.1 HTL.out]; simp)] at HBD
        dsimp only at HBD
        rw [List.length_map] at HBD
        clear q5
        go_wp2_with (first | (at_builtin; refine wpList_append_own_none rfl _ _ 34 rfl w.heap.size 5 i5 1 Ybad.underlying34 hi5 _ _ _ rfl HO.out (by show Value.slice none tl.length 0 = _; rw [HTL.out]) ?_))
        clear HO HTL
      case' some =>
        have HC1 := hide (tail_cells HT.out hrel.out.2)
        have HC2 := hide (byteCells_one tl)
        have HC3 : Hid ((Lib.byteCells tl).length = tl.length * 1) := by show _ = _; rw [Lib.byteCells_length, Nat.mul_one]
        go_wp2_with (first | (at_builtin; refine wpList_append_own _ rfl _ _ 34 rfl w.heap.size 5 i5 (.int .u8 0) 1 1 Ybad.underlying34 hi5 hz50 hz51 hz52 rfl (by decide) _ _ _ rfl hrel.out.1 ad tl.length tcap (Lib.byteCells tl) rfl HC3.out HC1.out HC2.out ?c1 ?c2 ?c3 ?_))
        case c1 => unfold maxLen; omega
        case c2 => omega
        case c3 => exact hrel.out.2.size
        intro v2 wr hown2 hgr2 _
        rw [← byteCells_append, ← List.length_append] at hown2
        have HB := hide (Below.grown hrel.out.2 hgr2 hrel.out.2.size (fun k hk => (hrel.out.1.lt k hk).1))
        obtain ⟨g2, cap2, hve, q1, q2, q3, q4, q5⟩ := own_shape hown2 (by rw [List.length_append]; omega)
        clear hown2 hgr2 hrel HC1 HC2 HC3
        subst hve
        have HBD := hide (acc_any _ _ kd a0 a1 _ 0 false _ (body_new (kd := kd) HB.out HVR.out q2 q3 q4 q5) (by rw [List.length_append]; omega) (by simp))
        rw [HA.out _ rfl] at HBD
        dsimp only at HBD
        rw [List.length_map, List.length_append] at HBD
        clear q5
        go_wp2_with fail
      all_goals
        refine (HBD.out).mono ?_
        rintro e w3 ⟨r, rfl, hr, hown3, hbod3, hgr3⟩
        obtain ⟨hbl3, k0, k2, ao, c, k1, hrest⟩ := after_acc HB.out hbod3 hgr3
        have HO3 := hide hown3
        have HBL := hide hbl3
        have HRS := hide hrest
        generalize wr.heap.size = g at *
        clear hown3 hbod3 hgr3 hbl3 hrest HBD HA HB hr hi5 hz50 hz51 hz52 hel hep q1 q2 q3 q4
        go_wp2_with fail
        go_loopw [11] (fun i wx => ∃ k : Nat, k ≤ zs.length ∧ i = .int .i64 k ∧ ∃ q, wx = w3.drewN q) (fun i _ => zs.length - (intOf i).toNat)
        case atStart => exact ⟨0, Nat.zero_le _, rfl, 0, rfl⟩
        case round =>
          obtain ⟨k, hk, rfl, q, rfl⟩ := hrel
          by_cases hlt : k < zs.length
          · obtain ⟨b, o, rfl, hbw, hcs⟩ := HV.out.2 (by omega)
            obtain ⟨z, hze⟩ : ∃ z, z = zs.getD k 0 := ⟨_, rfl⟩
            have hck : w3.cell? ⟨b, o + k, none⟩ = some (.int .u64 z) := by rw [hze]; exact (HBL.out.cell (by exact hbw)).trans (hcs k hlt)
            have hzk := HZ.out z (by rw [hze, List.getD_eq_getElem?_getD, List.getElem?_eq_getElem hlt]; simp)
            have hand := and63 z hzk.1 hzk.2
            have hgk : w3.cell? ⟨r, k, none⟩ = some (.int .i64 (m63 z : Int)) := by
              rw [HO3.out.cellAt k (by omega), cellsI_get (by simpa using hlt), hze]
              simp [List.getD_eq_getElem?_getD, hlt]
            have hm := m63_le z
            have hlt' : (k : Int) < (zs.length : Int) := by omega
            clear hcs hze
            go_wp2_with fail
            go_quiet (fail)
            go_wp2_with fail
            go_roundw
            case rel => exact ⟨k + 1, by omega, by go_num, _, rfl⟩
            case measure => simp [intOf]; omega
          · obtain rfl : zs.length = k := by omega
            clear hk hlt
            go_wp2_with fail
            go_loopw [12] (fun i wx => ∃ k : Nat, k ≤ tl.length ∧ i = .int .i64 k ∧ ∃ q, wx = w3.drewN q) (fun i _ => tl.length - (intOf i).toNat)
            case atStart => exact ⟨0, Nat.zero_le _, rfl, _, rfl⟩
            case round =>
              obtain ⟨k, hk, rfl, q, rfl⟩ := hrel
              by_cases hlt : k < tl.length
              · obtain ⟨tb, to, hte, htb, htc⟩ := HT.out.2 (by omega)
                obtain ⟨bk, o, rfl, hrc⟩ := HRS.out (by omega)
                first
                  | (cases hte; done)
                  | (cases hte
                     have h1 := hrc k hlt
                     have h2 : w3.cell? ⟨tb, to + k, none⟩ = some (.int .u8 (tl[k]).toNat) := (HBL.out.cell (by exact htb)).trans (htc k hlt)
                     generalize tl[k] = ch at h1 h2
                     have hlt' : (k : Int) < (tl.length : Int) := by omega
                     clear hrc htc
                     go_wp2_with fail
                     go_quiet (fail)
                     go_wp2_with fail
                     go_roundw
                     case rel => exact ⟨k + 1, by omega, by go_num, _, rfl⟩
                     case measure => simp [intOf]; omega)
              · obtain rfl : tl.length = k := by omega
                go_wp2_with fail
                go_ret
                exact ⟨rfl, below_drewN HBL.out _⟩

set_option maxHeartbeats 400000 in
theorem rt_big (va ta : Option Addr) (vlen vcap tlen tcap : Nat) (kd : Int) (w : World) (h : 1024 < vlen ∨ 1024 < tlen) :
    Calls Ybad.prog 5 #[.slice va vlen vcap, .slice ta tlen tcap, .int .u8 kd] w fun e w' => e = .returned (.bool true) ∧ Below w.heap.size w w' := by
  by_cases h1 : (1024 : Int) < (vlen : Int)
  · clear h
    go_enter Ybad.func5, Ybad.ntmps5
    go_wp2
    go_ret
    exact ⟨rfl, Below.refl _ _⟩
  · have h2 : (1024 : Int) < (tlen : Int) := by omega
    clear h
    go_enter Ybad.func5, Ybad.ntmps5
    go_wp2
    go_ret
    exact ⟨rfl, Below.refl _ _⟩

end Go.Proofs.YbulkczhgDoor
