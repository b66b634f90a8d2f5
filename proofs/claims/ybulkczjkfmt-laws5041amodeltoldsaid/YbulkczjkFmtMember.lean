/-
  isMember: walked, sort.SearchStrings by the kit's contract.
-/
import Derived.Test.YbulkczjkFmtBuild
import Derived.Shelf.SlSorted.Search
namespace Go.Proofs
open Go.Shelf
def Ybaf.lays15_ren : Go.Shelf.Ren := ⟨fun | 15 => 24 | 16 => 25 | 23 => 26 | n => n, fun | 0 => 0 | 3 => 3 | 4 => 4 | 9 => 9 | 30 => 23 | 35 => 90 | 38 => 34 | n => n, fun | n => n⟩
theorem Ybaf.lays15 : SlLaysO.n15 Ybaf.prog Ybaf.lays15_ren := {
  mixed := by kernel_rfl
  f15 := Ybaf.func24.trans (congrArg some (by kernel_rfl))
  f16 := Ybaf.func25.trans (congrArg some (by kernel_rfl))
  f23 := Ybaf.func26.trans (congrArg some (by kernel_rfl))
  t0 := Ybaf.underlying0
  a0 := Ybaf.isAgg0
  z0 := Ybaf.sizeOf0
  v0 := Ybaf.zeroValue0
  t3 := Ybaf.underlying3
  a3 := Ybaf.isAgg3
  z3 := Ybaf.sizeOf3
  v3 := Ybaf.zeroValue3
  t4 := Ybaf.underlying4
  a4 := Ybaf.isAgg4
  z4 := Ybaf.sizeOf4
  v4 := Ybaf.zeroValue4
  t9 := Ybaf.underlying9
  a9 := Ybaf.isAgg9
  z9 := Ybaf.sizeOf9
  v9 := Ybaf.zeroValue9
  t30 := Ybaf.underlying23
  a30 := Ybaf.isAgg23
  z30 := Ybaf.sizeOf23
  v30 := Ybaf.zeroValue23
  t35 := Ybaf.underlying90
  a35 := Ybaf.isAgg90
  z35 := Ybaf.sizeOf90
  v35 := Ybaf.zeroValue90
  t38 := Ybaf.underlying34
  a38 := Ybaf.isAgg34
  z38 := Ybaf.sizeOf34
  v38 := Ybaf.zeroValue34 }
end Go.Proofs
namespace Go.Proofs.YbulkczjkFmt
open Go.RowKit Go.Maps

theorem at_count (t : Nat) : ∀ l : List Nat, l.Pairwise (· < ·) → (l[l.countP (fun y => decide (y < t))]? = some t ↔ t ∈ l)
  | [], _ => by simp
  | x :: r, h => by
    rw [List.pairwise_cons] at h
    by_cases hx : x < t
    · rw [List.countP_cons_of_pos (by simpa using hx), List.getElem?_cons_succ, at_count t r h.2, List.mem_cons]
      exact ⟨.inr, fun e => e.resolve_left (fun e => by omega)⟩
    · have h0 : (x :: r).countP (fun y => decide (y < t)) = 0 := by
        refine List.countP_eq_zero.2 fun y hy => ?_
        rcases List.mem_cons.1 hy with rfl | hy
        · simpa using hx
        · have := h.1 y hy; simp; omega
      rw [h0, List.getElem?_cons_zero, List.mem_cons]
      constructor
      · intro e; exact .inl (Option.some.inj e).symm
      · rintro (e | e)
        · rw [e]
        · have := h.1 t e; omega

theorem memN_pair (mm n : Nat) : (memN mm n).Pairwise (· < ·) := List.Pairwise.filter _ List.pairwise_lt_range
theorem mem_memN (mm n t : Nat) : t ∈ memN mm n ↔ t < n ∧ bitN mm t = true := by simp [memN]

theorem id_lt : ∀ i, i < 4 → ∀ t, t < 4 → decide ((idB i).data.toList < (idB t).data.toList) = decide (i < t) := by decide
theorem id_inj : ∀ i, i < 4 → ∀ t, t < 4 → (((idB i).toList == (idB t).toList) = decide (i = t)) := by decide +kernel

theorem memL_lt {mm n i : Nat} (hn : n ≤ 4) (h : i ∈ memN mm n) : i < 4 := by have := (mem_memN mm n i).1 h; omega

set_option maxHeartbeats 1600000 in
theorem member_any (mm n t : Nat) (ao : Option Addr) (mc : Nat) (hn : n ≤ 4) (ht : t < 4) (w : World) (hown : w.ownsRow 0 9 1 (.slice ao (memN mm n).length mc) (memN mm n).length (memV mm n)) :
    Calls Ybaf.prog 19 #[.slice ao (memN mm n).length mc, .string (idB t)] w fun e w' => e = .returned (.bool (decide (t < n) && bitN mm t)) ∧ Below w.heap.size w w' := by
  have hres : (decide (t < n) && bitN mm t) = decide (t ∈ memN mm n) := by
    rw [Bool.eq_iff_iff]; simp [mem_memN]
  rw [hres]
  by_cases hz : (memN mm n).length = 0
  · have hm : memN mm n = [] := List.length_eq_zero_iff.1 hz
    rw [hm]
    have HS := hide (Any.sort_SearchStrings_none Ybaf.lays15 ao mc (idB t) w)
    change Hid (Calls Ybaf.prog 24 _ _ _) at HS
    clear hown hres
    simp only [List.length_nil, List.not_mem_nil, decide_false]
    go_enter Ybaf.func19, Ybaf.ntmps19
    go_wp2_with fail
    refine (HS.out).mono ?_
    rintro e w1 ⟨rfl, hb⟩
    have HB := hide hb
    clear hb HS
    go_wp2_with fail
    go_ret
    exact ⟨rfl, HB.out⟩
  · rcases hown.2 with ⟨_, h0⟩ | ⟨g, cap, cur, e, _⟩
    · exact absurd h0 hz
    · simp only [Value.slice.injEq] at e
      obtain ⟨rfl, _, rfl⟩ := e
      have hcells := hown.cells (g := g) rfl
      have hgl := (hown.lt g rfl).2
      obtain ⟨d, hd⟩ : ∃ d : Array ByteArray, d = ((memN mm n).map idB).toArray := ⟨_, rfl⟩
      have hds : d.size = (memN mm n).length := by rw [hd]; simp
      have hdi : ∀ i (hi : i < (memN mm n).length), d[i]! = idB ((memN mm n)[i]) := by
        intro i hi
        rw [getElem!_pos d i (by omega)]
        simp [hd]
      have hc : ∀ i, i < d.size → w.cell? ⟨g, 0 + i, none⟩ = some (Value.string d[i]!) := by
        intro i hi
        have := hcells i (.string d[i]!) (by rw [hdi i (by omega)]; simp [memV, show i < (memN mm n).length by omega])
        rw [Addr.add_lit] at this
        exact this
      have hlt : ∀ i (hi : i < (memN mm n).length), decide (d[i]!.data.toList < (idB t).data.toList) = decide ((memN mm n)[i] < t) := by
        intro i hi
        rw [hdi i hi]
        exact id_lt _ (memL_lt hn (List.getElem_mem hi)) t ht
      have hmono : ∀ a b, a ≤ b → b < d.size → (!decide (d[a]!.data.toList < (idB t).data.toList)) = true → (!decide (d[b]!.data.toList < (idB t).data.toList)) = true := by
        intro a b hab hb h
        rw [hlt a (by omega)] at h
        rw [hlt b (by omega)]
        by_cases e : a = b
        · subst e; exact h
        · have := List.pairwise_iff_getElem.1 (memN_pair mm n) a b (by omega) (by omega) (by omega)
          simp at h ⊢
          omega
      have HS := hide (Any.sort_SearchStrings Ybaf.lays15 g 0 mc d (idB t) w hc hgl (by have := memL_le mm n; omega) hmono)
      change Hid (Calls Ybaf.prog 24 _ _ _) at HS
      have hcnt : d.toList.countP (fun y => !!decide (y.data.toList < (idB t).data.toList)) = (memN mm n).countP (fun y => decide (y < t)) := by
        rw [hd]
        simp only [List.countP_map]
        refine List.countP_congr fun y hy => ?_
        simp only [Function.comp, Bool.not_not]
        rw [id_lt y (memL_lt hn hy) t ht]
      rw [hcnt, hds] at HS
      have hat := at_count t (memN mm n) (memN_pair mm n)
      have hle : (memN mm n).countP (fun y => decide (y < t)) ≤ (memN mm n).length := List.countP_le_length
      have hl4 := memL_le mm n
      have HCC : Hid (∀ w1, Below w.heap.size w w1 → ∀ i (hi : i < (memN mm n).length), w1.cell? ⟨g, i, none⟩ = some (.string (idB ((memN mm n)[i])))) := by
        intro w1 hb i hi
        rw [hb.cell (p := ⟨g, i, none⟩) hgl]
        have := hc i (by omega)
        rw [Nat.zero_add, hdi i hi] at this
        exact this
      clear hc hcells hlt hmono hdi hcnt hown hres
      generalize hcE : (memN mm n).countP (fun y => decide (y < t)) = c at *
      by_cases hcl : c < (memN mm n).length
      · have hcI : (c : Int) < ((memN mm n).length : Int) := by omega
        have hmem : decide (t ∈ memN mm n) = decide ((memN mm n)[c] = t) := by
          rw [Bool.eq_iff_iff]
          simp only [decide_eq_true_eq]
          rw [← hat, List.getElem?_eq_getElem hcl]
          simp
        rw [hmem]
        have hi4 := memL_lt hn (List.getElem_mem hcl)
        have heq := id_inj _ hi4 t ht
        go_enter Ybaf.func19, Ybaf.ntmps19
        go_wp2_with fail
        refine (HS.out).mono ?_
        rintro e w1 ⟨rfl, hb⟩
        have hcell := HCC.out w1 hb c hcl
        have HB := hide hb
        clear hb HS
        go_wp2_with fail
        go_ret
        exact ⟨rfl, HB.out⟩
      · have hcI : ¬ (c : Int) < ((memN mm n).length : Int) := by omega
        have hmem : decide (t ∈ memN mm n) = false := by
          rw [decide_eq_false_iff_not, ← hat, List.getElem?_eq_none (by omega)]
          simp
        rw [hmem]
        go_enter Ybaf.func19, Ybaf.ntmps19
        go_wp2_with fail
        refine (HS.out).mono ?_
        rintro e w1 ⟨rfl, hb⟩
        have HB := hide hb
        clear hb HS
        go_wp2_with fail
        go_ret
        exact ⟨rfl, HB.out⟩

end Go.Proofs.YbulkczjkFmt
