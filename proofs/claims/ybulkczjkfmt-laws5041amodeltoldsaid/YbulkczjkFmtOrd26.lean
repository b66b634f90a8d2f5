/-
  zzs5041abuild: the statement that appends a message, whole.
-/
import Derived.Test.YbulkczjkFmtOrd25
namespace Go.Proofs.YbulkczjkFmt
open Go.RowKit Go.Maps

section
variable {W : World} {a0 : Act} {lc P n g k base : Nat} {x : Msg} {v : Value} {xs : List Value} {Q : Exit → Act → World → Prop}

theorem msgC_one (n g : Nat) (x : Msg) (bs bc ow : Int) : ∀ u ∈ msgC n g x bs bc ow, u.oneCell' = true := by
  intro u hu
  simp only [msgC, List.mem_cons, List.not_mem_nil, or_false] at hu
  rcases hu with rfl | rfl | rfl | rfl | rfl | rfl | rfl | rfl | rfl <;> rfl

theorem op24_run {a : Act} {K : Act → World → Prop} (hown : W.ownsRow base 39 9 v k xs) (hb : base ≤ W.heap.size) (hk : k ≤ 300) (s114 : a.tmps[114]? = some v) (s133 : a.tmps[133]? = some (.slice (some ⟨W.heap.size, 0, none⟩) 1 1))
    (hK : ∀ g1 cap w1, w1.ownsRow base 39 9 (.slice (some ⟨g1, 0, none⟩) (k + 1) cap) (k + 1) (xs ++ msgC n g x x.bs x.bc x.ow) → (W.alloc (.cells (msgC n g x x.bs x.bc x.ow).toArray 39)).grownBy w1 v.ownBlock → K (a.put (some 134) (.slice (some ⟨g1, 0, none⟩) (k + 1) cap)) w1) :
    wpOp Ybaf.prog ops24 Q 24 K a (W.alloc (.cells (msgC n g x x.bs x.bc x.ow).toArray 39)) := by
  obtain ⟨o, ho, h1, h2, h3⟩ := hi_at24 hi24
  obtain ⟨i39, hi39, hz0, hz1, hz2⟩ := info_parts Ybaf.info39
  have hw : Region.wanted o (yielded ops24 a.tmps) = true := by simp [Region.wanted, h3]
  unfold wpOp
  simp only [ho, hw, if_true]
  refine .inl ?_
  refine wp_append_lies _ (.tmp 114) (.tmp 133) 43 h2 base 39 i39 _ 9 72 Ybaf.underlying43 hi39 hz0 hz1 hz2 rfl (by decide) v k xs (eval_tmp s114) (hown.alloc _) ⟨W.heap.size, 0, none⟩ 1 1 (msgC n g x x.bs x.bc x.ow) (eval_tmp s133) rfl
    (fun j u hu => World.news_of_block (w := W.alloc (.cells (msgC n g x x.bs x.bc x.ow).toArray 39)) (heap_new W _) j u (by simpa using hu)) (msgC_one _ _ _ _ _ _) (by decide) (by unfold maxLen; omega) (by omega) (by simp; omega) _ rfl ?_
  intro g1 cap w1 a1 a2 _ _
  rw [h1]
  exact hK g1 cap w1 a1 a2

theorem end_eq {a b : Act} {lis : Array Bool} {w : World} {s : Value} (h : Inv24 W a0 lc P n g x v lis a w) (hbig : 136 < a0.tmps.size) (hl : ∀ i, 1 ≤ i → i < 24 → lis.getD i false = true) (hb0 : b.tmps[110]? = some (.pointer (some ⟨lc, 0, none⟩))) (hb134 : b.tmps[134]? = some s)
    (hbs : b.tmps.size = a.tmps.size) (hbd : b.defers = a.defers) (hbf : ∀ t, t ≠ 110 → t ≠ 134 → b.tmps[t]? = a.tmps[t]?) :
    (b.put (some 135) (.pointer (some ⟨lc, 0, none⟩))).put (some 136) (.pointer (some ⟨lc, 6, none⟩)) = putL a0 ((List.range 27).map fun i => (110 + i, w24 W lc P n g x v s i)) := by
  have hts := h.tsz
  refine putR_eq a0 _ 110 27 _ (by omega) (by show b.defers = _; rw [hbd, h.defs]) (fun t ht => ?_) fun i hi => ?_
  · rw [put_at _ _ _ _ (by rw [put_size]; omega), if_neg (by omega), put_at _ _ _ _ (by omega), if_neg (by omega), hbf t (by omega) (by omega)]
    exact h.frame t (by omega)
  · rw [put_at _ _ _ _ (by rw [put_size]; omega), put_at _ _ _ _ (by omega)]
    by_cases h26 : i = 26
    · subst h26; simp [w24]
    rw [if_neg (by omega)]
    by_cases h25 : i = 25
    · subst h25; simp [w24]
    rw [if_neg (by omega)]
    by_cases h24 : i = 24
    · subst h24; simp only [w24]; exact hb134
    by_cases h0 : i = 0
    · subst h0; exact hb0
    rw [hbf (110 + i) (by omega) (by omega), h.slot i (hl i (by omega) (by omega)) (by omega)]
    congr 1
    unfold w24
    split <;> first | omega | rfl

theorem full24_get : ∀ i, 1 ≤ i → i < 24 → full24.getD i false = true := fun i h1 h2 => (show ∀ i, i < 24 → 1 ≤ i → full24.getD i false = true by decide) i h2 h1
theorem full24'_get : ∀ i, 1 ≤ i → i < 24 → full24'.getD i false = true := fun i h1 h2 => (show ∀ i, i < 24 → 1 ≤ i → full24'.getD i false = true by decide) i h2 h1

theorem region24 {ops : Array Oper} (hops : ops = ops24) {w0 : World} (hat : At24 w0 lc P n x v) (hbig : 136 < a0.tmps.size) (h0 : a0.tmps[0]? = some (.int .i64 n)) (h17 : a0.tmps[17]? = some (.pointer (some ⟨g, 0, none⟩))) (h18 : a0.tmps[18]? = some (.pointer (some ⟨lc, 0, none⟩))) (h23 : a0.tmps[23]? = some (.pointer (some ⟨P, 0, none⟩)))
    (hown : w0.ownsRow base 39 9 v k xs) (hb : base ≤ w0.heap.size) (hk : k ≤ 300) (hfr : w0.frozen? ⟨lc, 6, none⟩ = false) (hne : some lc ≠ v.ownBlock)
    (hQ : ∀ g1 cap w1, w1.ownsRow base 39 9 (.slice (some ⟨g1, 0, none⟩) (k + 1) cap) (k + 1) (xs ++ msgC n g x x.bs x.bc x.ow) → (w0.alloc (.cells (msgC n g x x.bs x.bc x.ow).toArray 39)).grownBy w1 v.ownBlock →
      Q .normal (putL a0 ((List.range 27).map fun i => (110 + i, w24 w0 lc P n g x v (.slice (some ⟨g1, 0, none⟩) (k + 1) cap) i))) (w1.setCell ⟨lc, 6, none⟩ (.slice (some ⟨g1, 0, none⟩) (k + 1) cap))) :
    (Code.region 24 ops true).wp Ybaf.prog Q a0 w0 := by
  subst hops
  have hlc : lc < w0.heap.size := World.block_lt_of_cell? w0 _ hat.c6
  refine wp_region_any (by kernel_rfl) ?_
  rw [ops24_size]
  have hcells : ∀ w1, ((({ w0 with drawn := w0.drawn + 1 } : World)).alloc (.cells (msgC n g x x.bs x.bc x.ow).toArray 39)).grownBy w1 v.ownBlock → w1.cell? ⟨lc, 6, none⟩ = some v ∧ w1.frozen? ⟨lc, 6, none⟩ = false := by
    intro w1 hg
    have hb1 : w1.heap[lc]? = w0.heap[lc]? := (hg.block lc (by simp; omega) hne).trans (Below.heap_alloc _ _ lc hlc)
    exact ⟨(World.cell?_of_block (a := ⟨lc, 6, none⟩) hb1).trans hat.c6, (World.frozen?_of_block (a := ⟨lc, 6, none⟩) hb1).trans hfr⟩
  have hQ' : ∀ g1 cap w1, w1.ownsRow base 39 9 (.slice (some ⟨g1, 0, none⟩) (k + 1) cap) (k + 1) (xs ++ msgC n g x x.bs x.bc x.ow) → ((({ w0 with drawn := w0.drawn + 1 } : World)).alloc (.cells (msgC n g x x.bs x.bc x.ow).toArray 39)).grownBy w1 v.ownBlock → (w0.alloc (.cells (msgC n g x x.bs x.bc x.ow).toArray 39)).grownBy w1 v.ownBlock := fun _ _ w1 _ hg => ⟨hg.os, hg.tape, hg.output, hg.size, hg.block⟩
  refine any24 (W := { w0 with drawn := w0.drawn + 1 }) (a0 := a0) ⟨hat.c6, hat.p0, hat.p1, hat.p2, hat.p3, hat.p4, hat.lt, hat.n1⟩ hbig h0 h17 h18 h23 ?_ ?_ 24 (Array.replicate 28 false) a0 _ ?_ rfl
  · intro a h
    have hts := h.tsz
    refine wpAny_all (rs := [24]) (by kernel_rfl) (by simp) fun i hi => ?_
    obtain rfl : i = 24 := by simpa using hi
    refine op24_run (base := base) (k := k) (xs := xs) hown hb hk (h.slot 4 rfl (by omega)) (h.slot 23 rfl (by omega)) fun g1 cap w1 a1 a2 => ?_
    have hc := hcells w1 a2
    refine tail24 (by kernel_rfl) (by kernel_rfl) (by kernel_rfl) (by kernel_rfl) (by rw [put_size]; omega) ?_ (by rw [put_at _ _ _ _ (by omega), if_pos rfl]) ⟨_, _, _, rfl⟩ hc.1 hc.2 ?_
    · rw [put_at _ _ _ _ (by omega), if_neg (by omega)]; exact h.slot 0 rfl (by omega)
    · rw [end_eq h hbig full24_get (by rw [put_at _ _ _ _ (by omega), if_neg (by omega)]; exact h.slot 0 rfl (by omega)) (by rw [put_at _ _ _ _ (by omega), if_pos rfl]) (put_size _ _ _) rfl (fun t _ ht => by rw [put_at _ _ _ _ (by omega), if_neg ht])]
      exact hQ g1 cap w1 a1 (hQ' g1 cap w1 a1 a2)
  · intro a h
    have hts := h.tsz
    refine op24_run (base := base) (k := k) (xs := xs) hown hb hk (h.slot 4 rfl (by omega)) (h.slot 23 rfl (by omega)) fun g1 cap w1 a1 a2 => ?_
    have hc := hcells w1 a2
    refine wpAny_all (rs := [0]) (by kernel_rfl) (by simp) fun i hi => ?_
    obtain rfl : i = 0 := by simpa using hi
    obtain ⟨o, ho, hd, hop, hgu, _, _⟩ := ops24_at 0 (by omega)
    have e18 : (a.put (some 134) (.slice (some ⟨g1, 0, none⟩) (k + 1) cap)).tmps[18]? = some (.pointer (some ⟨lc, 0, none⟩)) := by
      rw [put_at _ _ _ _ (by omega), if_neg (by omega)]; exact (h.frame 18 (by omega)).trans h18
    have hr0 : ∀ b : Act, b.tmps[18]? = some (.pointer (some ⟨lc, 0, none⟩)) → (execOp b.eval o).run Ybaf.prog w1 = .ok (.value (.pointer (some ⟨lc, 0, none⟩))) w1 := by
      intro b tb
      simp [execOp, hop, op24, Act.eval, tb]
    refine wpOp_val (v := .pointer (some ⟨lc, 0, none⟩)) (w' := w1) ho hgu (hr0 _ e18) ?_
    rw [hd]
    have b110 : ((a.put (some 134) (.slice (some ⟨g1, 0, none⟩) (k + 1) cap)).put (some (110 + 0)) (.pointer (some ⟨lc, 0, none⟩))).tmps[110]? = some (.pointer (some ⟨lc, 0, none⟩)) := by
      rw [put_at _ _ _ _ (by rw [put_size]; omega), if_pos rfl]
    have b134 : ((a.put (some 134) (.slice (some ⟨g1, 0, none⟩) (k + 1) cap)).put (some (110 + 0)) (.pointer (some ⟨lc, 0, none⟩))).tmps[134]? = some (.slice (some ⟨g1, 0, none⟩) (k + 1) cap) := by
      rw [put_at _ _ _ _ (by rw [put_size]; omega), if_neg (by omega), put_at _ _ _ _ (by omega), if_pos rfl]
    refine tail24 (by kernel_rfl) (by kernel_rfl) (by kernel_rfl) (by kernel_rfl) (by rw [put_size, put_size]; omega) b110 b134 ⟨_, _, _, rfl⟩ hc.1 hc.2 ?_
    rw [end_eq h hbig full24'_get b110 b134 (by rw [put_size, put_size]) rfl (fun t h1 h2 => by rw [put_at _ _ _ _ (by rw [put_size]; omega), if_neg h1, put_at _ _ _ _ (by omega), if_neg h2])]
    exact hQ g1 cap w1 a1 (hQ' g1 cap w1 a1 a2)
  · have N : ∀ i, (Array.replicate 28 false).getD i false = false := by
      intro i
      rw [Array.getD_eq_getD_getElem?, Array.getElem?_replicate]
      split <;> rfl
    refine ⟨by simp, fun i _ => N i, fun i k hi => ?_, by rw [N]; rfl, rfl, rfl, fun _ _ => rfl, fun i hi => ?_⟩ <;> (rw [N] at hi; cases hi)

end

end Go.Proofs.YbulkczjkFmt
