/-
  zzs5041abuild: the statement that appends a message: a law for the walk.
-/
import Derived.Test.YbulkczjkFmtOrd24
import Derived.Test.YbulkczjkFmtOrd3
namespace Go.Proofs.YbulkczjkFmt
open Go.RowKit Go.Maps

theorem putR_eq (a0 b : Act) (lo cnt : Nat) (vl : Nat → Value) (hsz : lo + cnt ≤ a0.tmps.size) (hd : b.defers = a0.defers) (hf : ∀ s, s < lo ∨ lo + cnt ≤ s → b.tmps[s]? = a0.tmps[s]?)
    (hv : ∀ i, i < cnt → b.tmps[lo + i]? = some (vl i)) : b = putL a0 ((List.range cnt).map fun i => (lo + i, vl i)) := by
  have hb : ∀ p ∈ (List.range cnt).map (fun i => (lo + i, vl i)), p.1 < a0.tmps.size := by
    intro p hp
    obtain ⟨i, hi, rfl⟩ := List.mem_map.1 hp
    have := List.mem_range.1 hi
    show lo + i < _
    omega
  have hnd : (((List.range cnt).map fun i => (lo + i, vl i)).map (·.1)).Nodup := by
    rw [List.map_map]
    show ((List.range cnt).map (fun i => lo + i)).Nodup
    rw [← List.range'_eq_map_range]
    exact List.nodup_range'
  refine act_ext (by rw [putL_defers, hd]) fun s => ?_
  by_cases hr : s < lo ∨ lo + cnt ≤ s
  · rw [hf s hr, putL_miss _ _ (by
      intro p hp
      obtain ⟨i, hi, rfl⟩ := List.mem_map.1 hp
      have := List.mem_range.1 hi
      show lo + i ≠ s
      omega) hb]
  · obtain ⟨i, rfl⟩ : ∃ i, s = lo + i := ⟨s - lo, by omega⟩
    rw [hv i (by omega)]
    exact (putL_hit _ a0 hnd hb (List.mem_map.2 ⟨i, List.mem_range.2 (by omega), rfl⟩)).symm

def w24 (W : World) (lc P n g : Nat) (x : Msg) (v s : Value) (i : Nat) : Value := match i with
  | 24 => s
  | 25 => .pointer (some ⟨lc, 0, none⟩)
  | 26 => .pointer (some ⟨lc, 6, none⟩)
  | i => v24 W lc P n g x v i

def full24 : Array Bool := (Array.replicate 24 true) ++ #[false, false, false, false]
def full24' : Array Bool := #[false] ++ (Array.replicate 23 true) ++ #[false, false, false, false]

theorem arr_eq {l l' : Array Bool} (hs : l.size = l'.size) (h : ∀ i, i < l'.size → l.getD i false = l'.getD i false) : l = l' := by
  apply Array.ext hs
  intro i h1 h2
  have := h i h2
  simpa [Array.getD_eq_getD_getElem?, h1, h2] using this

section
variable {W : World} {a0 : Act} {lc P n g : Nat} {x : Msg} {v : Value} {listed : Array Bool} {a : Act} {w : World} {Q : Exit → Act → World → Prop}

set_option maxHeartbeats 800000 in
theorem tail24 {lis : Array Bool} {s u : Value} (h25 : Region.ready .any ops24 lis = [25]) (h26 : Region.ready .any ops24 (lis.setIfInBounds 25 true) = [26]) (h27 : Region.ready .any ops24 ((lis.setIfInBounds 25 true).setIfInBounds 26 true) = [27]) (h28 : Region.ready .any ops24 (((lis.setIfInBounds 25 true).setIfInBounds 26 true).setIfInBounds 27 true) = [])
    (hbig : 136 < a.tmps.size) (t110 : a.tmps[110]? = some (.pointer (some ⟨lc, 0, none⟩))) (t134 : a.tmps[134]? = some s) (hone : ∃ ao c d, s = .slice ao c d) (hc : w.cell? ⟨lc, 6, none⟩ = some u) (hfr : w.frozen? ⟨lc, 6, none⟩ = false)
    (hQ : Q .normal ((a.put (some 135) (.pointer (some ⟨lc, 0, none⟩))).put (some 136) (.pointer (some ⟨lc, 6, none⟩))) (w.setCell ⟨lc, 6, none⟩ s)) :
    wpAny Ybaf.prog .any ops24 Q 3 lis a w := by
  refine wpAny_all (rs := [25]) h25 (by simp) fun i hi => ?_
  obtain rfl : i = 25 := by simpa using hi
  obtain ⟨o, ho, h1, h2, h3⟩ := hi_at24 hi25
  refine wpOp_val (v := .pointer (some ⟨lc, 0, none⟩)) (w' := w) ho h3 (by simp [execOp, h2, Act.eval, t110]) ?_
  rw [h1]
  refine wpAny_all (rs := [26]) h26 (by simp) fun i hi => ?_
  obtain rfl : i = 26 := by simpa using hi
  obtain ⟨o, ho, h1, h2, h3⟩ := hi_at24 hi26
  have t135 : (a.put (some 135) (.pointer (some ⟨lc, 0, none⟩))).tmps[135]? = some (.pointer (some ⟨lc, 0, none⟩)) := by rw [put_at _ _ _ _ (by omega), if_pos rfl]
  have hr26 : ∀ b : Act, b.tmps[135]? = some (.pointer (some ⟨lc, 0, none⟩)) → (execOp b.eval o).run Ybaf.prog w = .ok (.value (.pointer (some ⟨lc, 6, none⟩))) w := by
    intro b tb
    simp [execOp, h2, Act.eval, tb, go_sem]
  refine wpOp_val (v := .pointer (some ⟨lc, 6, none⟩)) (w' := w) ho h3 (hr26 _ t135) ?_
  rw [h1]
  refine wpAny_all (rs := [27]) h27 (by simp) fun i hi => ?_
  obtain rfl : i = 27 := by simpa using hi
  obtain ⟨o, ho, h1, h2, h3⟩ := hi_at24 hi27
  have t136 : ((a.put (some 135) (.pointer (some ⟨lc, 0, none⟩))).put (some 136) (.pointer (some ⟨lc, 6, none⟩))).tmps[136]? = some (.pointer (some ⟨lc, 6, none⟩)) := by rw [put_at _ _ _ _ (by rw [put_size]; omega), if_pos rfl]
  have t134' : ((a.put (some 135) (.pointer (some ⟨lc, 0, none⟩))).put (some 136) (.pointer (some ⟨lc, 6, none⟩))).tmps[134]? = some s := by rw [put_at _ _ _ _ (by rw [put_size]; omega), if_neg (by omega), put_at _ _ _ _ (by omega), if_neg (by omega)]; exact t134
  obtain ⟨ao, c, d, rfl⟩ := hone
  refine wpOp_skip (w' := w.setCell ⟨lc, 6, none⟩ (.slice ao c d)) ho h3 h1 ?_ (wpAny_done h28 hQ 0)
  generalize (a.put (some 135) (.pointer (some ⟨lc, 0, none⟩))).put (some 136) (.pointer (some ⟨lc, 6, none⟩)) = b at t136 t134'
  simp [execOp, h2, Act.eval, t136, t134', go_sem, hc, hfr]

theorem any24 (hat : At24 W lc P n x v) (hbig : 136 < a0.tmps.size) (h0 : a0.tmps[0]? = some (.int .i64 n)) (h17 : a0.tmps[17]? = some (.pointer (some ⟨g, 0, none⟩))) (h18 : a0.tmps[18]? = some (.pointer (some ⟨lc, 0, none⟩))) (h23 : a0.tmps[23]? = some (.pointer (some ⟨P, 0, none⟩)))
    (hfin : ∀ a, Inv24 W a0 lc P n g x v full24 a (W.alloc (.cells (msgC n g x x.bs x.bc x.ow).toArray 39)) → wpAny Ybaf.prog .any ops24 Q 4 full24 a (W.alloc (.cells (msgC n g x x.bs x.bc x.ow).toArray 39)))
    (hfin' : ∀ a, Inv24 W a0 lc P n g x v full24' a (W.alloc (.cells (msgC n g x x.bs x.bc x.ow).toArray 39)) → wpOp Ybaf.prog ops24 Q 24 (wpAny Ybaf.prog .any ops24 Q 4 (full24'.setIfInBounds 24 true)) a (W.alloc (.cells (msgC n g x x.bs x.bc x.ow).toArray 39))) :
    ∀ f listed a w, Inv24 W a0 lc P n g x v listed a w → ((List.range 24).countP fun i => !listed.getD i false) = f → wpAny Ybaf.prog .any ops24 Q (f + 4) listed a w := by
  intro f
  induction f with
  | zero =>
    intro listed a w h hc
    have hl : ∀ i, i < 24 → listed.getD i false = true := by
      intro i hi
      have := List.countP_eq_zero.1 hc i (List.mem_range.2 hi)
      simpa using this
    have e : listed = full24 := by
      refine arr_eq (by rw [h.sz]; rfl) fun i hi => ?_
      have hi' : i < 28 := hi
      by_cases h24 : i < 24
      · rw [hl i h24]
        have : i = 0 ∨ i = 1 ∨ i = 2 ∨ i = 3 ∨ i = 4 ∨ i = 5 ∨ i = 6 ∨ i = 7 ∨ i = 8 ∨ i = 9 ∨ i = 10 ∨ i = 11 ∨ i = 12 ∨ i = 13 ∨ i = 14 ∨ i = 15 ∨ i = 16 ∨ i = 17 ∨ i = 18 ∨ i = 19 ∨ i = 20 ∨ i = 21 ∨ i = 22 ∨ i = 23 := by omega
        rcases this with rfl | rfl | rfl | rfl | rfl | rfl | rfl | rfl | rfl | rfl | rfl | rfl | rfl | rfl | rfl | rfl | rfl | rfl | rfl | rfl | rfl | rfl | rfl | rfl <;> rfl
      · rw [h.low i (by omega)]
        have : i = 24 ∨ i = 25 ∨ i = 26 ∨ i = 27 := by omega
        rcases this with rfl | rfl | rfl | rfl <;> rfl
    subst e
    have hwd := h.wd
    rw [hl 23 (by omega)] at hwd
    simp only [if_true] at hwd
    subst hwd
    exact hfin a h
  | succ f ih =>
    intro listed a w h hc
    have hex : ∃ k, k < 24 ∧ listed.getD k false = false := by
      apply Classical.byContradiction
      intro hno
      have : ((List.range 24).countP fun i => !listed.getD i false) = 0 := by
        refine List.countP_eq_zero.2 fun i hi => ?_
        have hi' := List.mem_range.1 hi
        cases hg : listed.getD i false with
        | true => simp
        | false => exact absurd ⟨i, hi', hg⟩ hno
      omega
    obtain ⟨k, hk, hku⟩ := hex
    refine ⟨fun hnil => ?_, fun i hi => ?_⟩
    · obtain ⟨j, hj⟩ := h.some_ready k hk hku
      rw [hnil] at hj
      cases hj
    · rcases h.ready hi with ⟨hi24, hiu, hdep⟩ | ⟨rfl, hcl⟩
      · refine wpOp_mono ?_ (step24 h hat hbig h0 h17 h18 h23 hi24 hiu hdep)
        intro a' w' h'
        refine ih _ a' w' h' ?_
        have hil : i < listed.size := by rw [h.sz]; omega
        have := countP_one (fun j => !listed.getD j false) (fun j => !(listed.setIfInBounds i true).getD j false) i (List.range 24) List.nodup_range (List.mem_range.2 hi24) (by simp [hiu]) (by simp [getD_set listed i i hil]) (fun j hj => by simp [getD_set listed i j hil, hj])
        omega
      · have hk0 : k = 0 := by
          apply Classical.byContradiction
          intro hne
          rw [hcl k (by omega) hk] at hku
          cases hku
        subst hk0
        have e : listed = full24' := by
          refine arr_eq (by rw [h.sz]; rfl) fun i hi => ?_
          have hi' : i < 28 := hi
          by_cases hz : i = 0
          · subst hz; rw [hku]; rfl
          by_cases h24 : i < 24
          · rw [hcl i (by omega) h24]
            have : i = 1 ∨ i = 2 ∨ i = 3 ∨ i = 4 ∨ i = 5 ∨ i = 6 ∨ i = 7 ∨ i = 8 ∨ i = 9 ∨ i = 10 ∨ i = 11 ∨ i = 12 ∨ i = 13 ∨ i = 14 ∨ i = 15 ∨ i = 16 ∨ i = 17 ∨ i = 18 ∨ i = 19 ∨ i = 20 ∨ i = 21 ∨ i = 22 ∨ i = 23 := by omega
            rcases this with rfl | rfl | rfl | rfl | rfl | rfl | rfl | rfl | rfl | rfl | rfl | rfl | rfl | rfl | rfl | rfl | rfl | rfl | rfl | rfl | rfl | rfl | rfl <;> rfl
          · rw [h.low i (by omega)]
            have : i = 24 ∨ i = 25 ∨ i = 26 ∨ i = 27 := by omega
            rcases this with rfl | rfl | rfl | rfl <;> rfl
        have hwd := h.wd
        rw [hcl 23 (by omega) (by omega)] at hwd
        simp only [if_true] at hwd
        subst hwd
        subst e
        have hf : f = 0 := by
          have : ((List.range 24).countP fun i => !full24'.getD i false) = 1 := by rfl
          omega
        subst hf
        exact hfin' a h

end

end Go.Proofs.YbulkczjkFmt
