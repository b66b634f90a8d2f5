/-
  zzs5041abuild: the statement that makes the LogChecker: a law for the walk.
-/
import Derived.Test.YbulkczjkFmtOrd2
namespace Go.Proofs.YbulkczjkFmt
open Go.RowKit Go.Maps

def lcCells (n : Nat) (m : Nat → Nat) : List Value :=
  [.map (some (m 0)), .map (some (m 4)), .slice (some ⟨m 6, 0, none⟩) n n, .slice (some ⟨m 8, 0, none⟩) n n, .slice (some ⟨m 10, 0, none⟩) n n, .map (some (m 11)), .slice none 0 0, .map (some (m 12)),
    .int .i64 0, .int .i64 0, .map (some (m 13)), .int .i64 0, .int .i64 0, .int .i64 0, .int .i64 0, .map (some (m 14)), .int .i64 0]

/-- What stands behind the statement. -/
structure Made (W : World) (n g : Nat) (m : Nat → Nat) (lc : Nat) (w : World) : Prop where
  grown : W.grownBy w none
  lcLe : W.heap.size ≤ lc
  row : RowT w 47 lc (lcCells n m)
  le : ∀ i, isAlloc i = true → W.heap.size ≤ m i ∧ m i < lc
  groups : w.ownsMap Ybaf.prog 9 ptrElem (m 0) 1 (dG g)
  procs : w.ownsMap (H := Unit) Ybaf.prog 9 (plainElem Ybaf.prog 3) (m 4) 0 (.map [])
  nodes : w.ownsMap Ybaf.prog 9 ptrElem (m 11) 0 (.map [])
  crashed : RowT w 4 (m 6) (List.replicate n (.bool false))
  stopped : RowT w 4 (m 8) (List.replicate n (.bool false))
  last : RowT w 4 (m 10) (List.replicate n (.bool false))
  inj : ∀ i j, isAlloc i = true → isAlloc j = true → i ≠ j → m i ≠ m j

def putL (a : Act) : List (Nat × Value) → Act
  | [] => a
  | (d, v) :: r => putL (a.put (some d) v) r

def puts (a0 : Act) (n g : Nat) (m : Nat → Nat) (lc : Nat) : Act := putL a0
  [(57, .map (some (m 0))), (58, .pointer (some ⟨g, 0, none⟩)), (59, .map (some (m 0))), (60, .map (some (m 4))), (61, .int .i64 n), (62, .slice (some ⟨m 6, 0, none⟩) n n), (63, .int .i64 n), (64, .slice (some ⟨m 8, 0, none⟩) n n), (65, .int .i64 n), (66, .slice (some ⟨m 10, 0, none⟩) n n), (67, .map (some (m 11))), (68, .map (some (m 12))), (69, .map (some (m 13))), (70, .map (some (m 14))), (71, .agg (lcCells n m).toArray), (72, .pointer (some ⟨lc, 0, none⟩)), (18, .pointer (some ⟨lc, 0, none⟩))]

theorem put_size (a : Act) (d : Nat) (v : Value) : (a.put (some d) v).tmps.size = a.tmps.size := by simp [Act.put]

theorem act_ext {a b : Act} (h1 : a.defers = b.defers) (h2 : ∀ s : Nat, a.tmps[s]? = b.tmps[s]?) : a = b := by
  cases a with
  | mk t d =>
    cases b with
    | mk t' d' =>
      have e : t = t' := Array.ext_getElem? h2
      subst e
      cases h1
      rfl

theorem putL_miss {s : Nat} : ∀ (l : List (Nat × Value)) (a : Act), (∀ p ∈ l, p.1 ≠ s) → (∀ p ∈ l, p.1 < a.tmps.size) → (putL a l).tmps[s]? = a.tmps[s]?
  | [], _, _, _ => rfl
  | (d, v) :: r, a, h, hb => by
    rw [putL, putL_miss r _ (fun p hp => h p (List.mem_cons_of_mem _ hp)) (fun p hp => by rw [put_size]; exact hb p (List.mem_cons_of_mem _ hp)), put_at a d v s (hb (d, v) (List.mem_cons_self ..)), if_neg (Ne.symm (h (d, v) (List.mem_cons_self ..)))]

theorem putL_hit {s : Nat} {u : Value} : ∀ (l : List (Nat × Value)) (a : Act), (l.map (·.1)).Nodup → (∀ p ∈ l, p.1 < a.tmps.size) → (s, u) ∈ l → (putL a l).tmps[s]? = some u
  | [], _, _, _, h => by cases h
  | (d, v) :: r, a, hn, hb, h => by
    rw [List.map_cons, List.nodup_cons] at hn
    have hb' : ∀ p ∈ r, p.1 < (a.put (some d) v).tmps.size := fun p hp => by rw [put_size]; exact hb p (List.mem_cons_of_mem _ hp)
    rcases List.mem_cons.1 h with e | e
    · obtain ⟨rfl, rfl⟩ := Prod.mk.inj e
      rw [putL, putL_miss r _ (fun p hp e => hn.1 (List.mem_map.2 ⟨p, hp, e⟩)) hb', put_at a s u s (hb (s, u) (List.mem_cons_self ..)), if_pos rfl]
    · rw [putL]
      exact putL_hit r _ hn.2 hb' e

theorem putL_defers : ∀ (l : List (Nat × Value)) (a : Act), (putL a l).defers = a.defers
  | [], _ => rfl
  | (d, v) :: r, a => by rw [putL, putL_defers r]; rfl

theorem puts_eq {W : World} {a0 a : Act} {n g : Nat} {w : World} {m : Nat → Nat} (h : Inv W a0 n g full a w m) (hbig : 72 < a0.tmps.size) (lc : Nat) :
    ((a.put (some 71) (.agg (lcCells n m).toArray)).put (some 72) (.pointer (some ⟨lc, 0, none⟩))).put (some 18) (.pointer (some ⟨lc, 0, none⟩)) = puts a0 n g m lc := by
  show putL a [(71, .agg (lcCells n m).toArray), (72, .pointer (some ⟨lc, 0, none⟩)), (18, .pointer (some ⟨lc, 0, none⟩))] = _
  have ht := h.tsz
  generalize hag : Value.agg (lcCells n m).toArray = ag
  have hb1 : ∀ p ∈ [((71 : Nat), ag), (72, Value.pointer (some ⟨lc, 0, none⟩)), (18, .pointer (some ⟨lc, 0, none⟩))], p.1 < a.tmps.size := by
    intro p hp
    simp only [List.mem_cons, List.not_mem_nil, or_false] at hp
    rcases hp with rfl | rfl | rfl <;> (show _ < _; omega)
  refine act_ext ?_ fun s => ?_
  · rw [puts, putL_defers, putL_defers, h.defs]
  · have S := fun i (hi : full.getD i false = true) d (hd : dst i = some d) => h.slot i hi d hd
    unfold puts
    rw [hag]
    generalize hL : [((57 : Nat), Value.map (some (m 0))), (58, .pointer (some ⟨g, 0, none⟩)), (59, .map (some (m 0))), (60, .map (some (m 4))), (61, .int .i64 n), (62, .slice (some ⟨m 6, 0, none⟩) n n), (63, .int .i64 n), (64, .slice (some ⟨m 8, 0, none⟩) n n), (65, .int .i64 n), (66, .slice (some ⟨m 10, 0, none⟩) n n), (67, .map (some (m 11))), (68, .map (some (m 12))), (69, .map (some (m 13))), (70, .map (some (m 14))), (71, ag), (72, .pointer (some ⟨lc, 0, none⟩)), (18, .pointer (some ⟨lc, 0, none⟩))] = L
    have hk : L.map (·.1) = [57, 58, 59, 60, 61, 62, 63, 64, 65, 66, 67, 68, 69, 70, 71, 72, 18] := by rw [← hL]; rfl
    have hnd : (L.map (·.1)).Nodup := by rw [hk]; decide
    have hb2 : ∀ p ∈ L, p.1 < a0.tmps.size := by
      intro p hp
      have : p.1 ∈ [57, 58, 59, 60, 61, 62, 63, 64, 65, 66, 67, 68, 69, 70, 71, 72, 18] := by rw [← hk]; exact List.mem_map.2 ⟨p, hp, rfl⟩
      simp at this
      omega
    by_cases h18 : s = 18
    · subst h18; rw [putL_hit _ _ (by simp) hb1 (u := .pointer (some ⟨lc, 0, none⟩)) (by simp), putL_hit L a0 hnd hb2 (u := .pointer (some ⟨lc, 0, none⟩)) (by rw [← hL]; simp)]
    by_cases h72 : s = 72
    · subst h72; rw [putL_hit _ _ (by simp) hb1 (u := .pointer (some ⟨lc, 0, none⟩)) (by simp), putL_hit L a0 hnd hb2 (u := .pointer (some ⟨lc, 0, none⟩)) (by rw [← hL]; simp)]
    by_cases h71 : s = 71
    · subst h71; rw [putL_hit _ _ (by simp) hb1 (u := ag) (by simp), putL_hit L a0 hnd hb2 (u := ag) (by rw [← hL]; simp)]
    rw [putL_miss _ _ (by intro p hp; simp only [List.mem_cons, List.not_mem_nil, or_false] at hp; rcases hp with rfl | rfl | rfl <;> (show _ ≠ _; omega)) hb1]
    by_cases hr : s < 57 ∨ 70 < s
    · rw [h.frame s hr, putL_miss L a0 ?_ hb2]
      intro p hp
      have : p.1 ∈ [57, 58, 59, 60, 61, 62, 63, 64, 65, 66, 67, 68, 69, 70, 71, 72, 18] := by rw [← hk]; exact List.mem_map.2 ⟨p, hp, rfl⟩
      simp at this
      omega
    · have : s = 57 ∨ s = 58 ∨ s = 59 ∨ s = 60 ∨ s = 61 ∨ s = 62 ∨ s = 63 ∨ s = 64 ∨ s = 65 ∨ s = 66 ∨ s = 67 ∨ s = 68 ∨ s = 69 ∨ s = 70 := by omega
      rcases this with rfl | rfl | rfl | rfl | rfl | rfl | rfl | rfl | rfl | rfl | rfl | rfl | rfl | rfl
      · rw [S 0 rfl 57 rfl]; exact (putL_hit L a0 hnd hb2 (by rw [← hL]; simp [val])).symm
      · rw [S 1 rfl 58 rfl]; exact (putL_hit L a0 hnd hb2 (by rw [← hL]; simp [val])).symm
      · rw [S 3 rfl 59 rfl]; exact (putL_hit L a0 hnd hb2 (by rw [← hL]; simp [val])).symm
      · rw [S 4 rfl 60 rfl]; exact (putL_hit L a0 hnd hb2 (by rw [← hL]; simp [val])).symm
      · rw [S 5 rfl 61 rfl]; exact (putL_hit L a0 hnd hb2 (by rw [← hL]; simp [val])).symm
      · rw [S 6 rfl 62 rfl]; exact (putL_hit L a0 hnd hb2 (by rw [← hL]; simp [val])).symm
      · rw [S 7 rfl 63 rfl]; exact (putL_hit L a0 hnd hb2 (by rw [← hL]; simp [val])).symm
      · rw [S 8 rfl 64 rfl]; exact (putL_hit L a0 hnd hb2 (by rw [← hL]; simp [val])).symm
      · rw [S 9 rfl 65 rfl]; exact (putL_hit L a0 hnd hb2 (by rw [← hL]; simp [val])).symm
      · rw [S 10 rfl 66 rfl]; exact (putL_hit L a0 hnd hb2 (by rw [← hL]; simp [val])).symm
      · rw [S 11 rfl 67 rfl]; exact (putL_hit L a0 hnd hb2 (by rw [← hL]; simp [val])).symm
      · rw [S 12 rfl 68 rfl]; exact (putL_hit L a0 hnd hb2 (by rw [← hL]; simp [val])).symm
      · rw [S 13 rfl 69 rfl]; exact (putL_hit L a0 hnd hb2 (by rw [← hL]; simp [val])).symm
      · rw [S 14 rfl 70 rfl]; exact (putL_hit L a0 hnd hb2 (by rw [← hL]; simp [val])).symm

theorem build47 (n : Nat) (m : Nat → Nat) (w : World) : (Instr.build 47 #[(0, .map (some (m 0))), (1, .map (some (m 4))), (2, .slice (some ⟨m 6, 0, none⟩) n n), (3, .slice (some ⟨m 8, 0, none⟩) n n), (4, .slice (some ⟨m 10, 0, none⟩) n n), (5, .map (some (m 11))), (7, .map (some (m 12))), (10, .map (some (m 13))), (15, .map (some (m 14)))]).run Ybaf.prog w = .ok (.agg (lcCells n m).toArray) w := by
  simp [Instr.build, Instr.fill, go_sem, lcCells]

theorem box47 (n : Nat) (m : Nat → Nat) (w : World) : (Instr.box 47 (.agg (lcCells n m).toArray)).run Ybaf.prog w = .ok (.pointer (some ⟨w.heap.size, 0, none⟩)) (w.alloc (.cells (lcCells n m).toArray 47)) := by
  simp [Instr.box, go_sem, lcCells]

theorem region12 {ops : Array Oper} (hops : ops = ops12) {Q : Exit → Act → World → Prop} {a0 : Act} {w0 : World} {n g : Nat} (hbig : 72 < a0.tmps.size) (h0 : a0.tmps[0]? = some (.int .i64 n)) (h17 : a0.tmps[17]? = some (.pointer (some ⟨g, 0, none⟩))) (hn : n ≤ 1024)
    (hQ : ∀ m lc w, Made w0 n g m lc w → Q .normal (puts a0 n g m lc) w) : (Code.region 12 ops true).wp Ybaf.prog Q a0 w0 := by
  subst hops
  refine wp_region_any (by kernel_rfl) ?_
  rw [ops_size]
  refine any12 (W := { w0 with drawn := w0.drawn + 1 }) (a0 := a0) (by omega) h0 h17 hn ?_ 15 (Array.replicate 18 false) a0 _ (fun _ => 0) ?_ rfl
  · intro a w m h
    have F := fun i (hi : isAlloc i = true) (hf : full.getD i false = true) => h.fact i hi hf
    have hAll : ∀ i, isAlloc i = true → full.getD i false = true := by
      intro i hi
      simp only [isAlloc, List.contains_iff_mem, List.mem_cons, List.not_mem_nil, or_false] at hi
      rcases hi with rfl | rfl | rfl | rfl | rfl | rfl | rfl | rfl | rfl <;> rfl
    refine wpAny_all (rs := [15]) (by kernel_rfl) (by simp) fun i hi => ?_
    obtain rfl : i = 15 := by simpa using hi
    obtain ⟨o, ho, h1, h2, h3⟩ := hi_at hi_all
    refine wpOp_val (v := .agg (lcCells n m).toArray) (w' := w) ho h3 ?_ ?_
    · have s59 : a.tmps[59]? = some (.map (some (m 0))) := h.slot 3 rfl 59 rfl
      have s60 : a.tmps[60]? = some (.map (some (m 4))) := h.slot 4 rfl 60 rfl
      have s62 : a.tmps[62]? = some (.slice (some ⟨m 6, 0, none⟩) n n) := h.slot 6 rfl 62 rfl
      have s64 : a.tmps[64]? = some (.slice (some ⟨m 8, 0, none⟩) n n) := h.slot 8 rfl 64 rfl
      have s66 : a.tmps[66]? = some (.slice (some ⟨m 10, 0, none⟩) n n) := h.slot 10 rfl 66 rfl
      have s67 : a.tmps[67]? = some (.map (some (m 11))) := h.slot 11 rfl 67 rfl
      have s68 : a.tmps[68]? = some (.map (some (m 12))) := h.slot 12 rfl 68 rfl
      have s69 : a.tmps[69]? = some (.map (some (m 13))) := h.slot 13 rfl 69 rfl
      have s70 : a.tmps[70]? = some (.map (some (m 14))) := h.slot 14 rfl 70 rfl
      simp [execOp, h2, Act.eval, s59, s60, s62, s64, s66, s67, s68, s69, s70, build47]
    · rw [h1]
      have t71 : (a.put (some 71) (.agg (lcCells n m).toArray)).tmps[71]? = some (.agg (lcCells n m).toArray) := by
        rw [put_at _ _ _ _ (by rw [h.tsz]; omega), if_pos rfl]
      refine wpAny_all (rs := [16]) (by kernel_rfl) (by simp) fun i hi => ?_
      obtain rfl : i = 16 := by simpa using hi
      obtain ⟨o, ho, h1, h2, h3⟩ := hi_at hi_16
      refine wpOp_val (v := .pointer (some ⟨w.heap.size, 0, none⟩)) (w' := w.alloc (.cells (lcCells n m).toArray 47)) ho h3 (by simp [execOp, h2, eval_tmp t71, box47]) ?_
      rw [h1]
      have t72 : ((a.put (some 71) (.agg (lcCells n m).toArray)).put (some 72) (.pointer (some ⟨w.heap.size, 0, none⟩))).tmps[72]? = some (.pointer (some ⟨w.heap.size, 0, none⟩)) := by
        rw [put_at _ _ _ _ (by rw [put_size, h.tsz]; omega), if_pos rfl]
      refine wpAny_all (rs := [17]) (by kernel_rfl) (by simp) fun i hi => ?_
      obtain rfl : i = 17 := by simpa using hi
      obtain ⟨o, ho, h1, h2, h3⟩ := hi_at hi_17
      refine wpOp_val (v := .pointer (some ⟨w.heap.size, 0, none⟩)) (w' := w.alloc (.cells (lcCells n m).toArray 47)) ho h3 (by simp [execOp, h2, eval_tmp t72]) ?_
      rw [h1]
      refine wpAny_done (by kernel_rfl) ?_ 0
      have e := puts_eq h hbig w.heap.size
      rw [show ((some 71 : Option Tmp), (Op.build 47 #[(0, .tmp 59), (1, .tmp 60), (2, .tmp 62), (3, .tmp 64), (4, .tmp 66), (5, .tmp 67), (7, .tmp 68), (10, .tmp 69), (15, .tmp 70)]), (none : Option (Nat × Bool))).1 = some 71 from rfl] at *
      rw [e]
      have hg := World.grownBy_alloc w (.cells (lcCells n m).toArray 47) none
      refine hQ m w.heap.size _ ⟨?_, h.grown.size, ?_, fun i hi => ⟨(F i hi (hAll i hi)).1, (F i hi (hAll i hi)).2.1⟩, ?_, ?_, ?_, ?_, ?_, ?_, fun i j hi hj hij => h.inj i j hi hj (hAll i hi) (hAll j hj) hij⟩
      · have := grownBy_trans h.grown hg
        exact ⟨this.os, this.tape, this.output, this.size, this.block⟩
      · exact (show (w.heap.push _)[w.heap.size]? = _ from Array.getElem?_push_size)
      · exact World.ownsMap.kept (F 0 rfl rfl).2.2 hg (by simp)
      · exact World.ownsMap.kept (F 4 rfl rfl).2.2 hg (by simp)
      · exact World.ownsMap.kept (F 11 rfl rfl).2.2 hg (by simp)
      · exact RowT.kept (F 6 rfl rfl).2.2 hg (by simp)
      · exact RowT.kept (F 8 rfl rfl).2.2 hg (by simp)
      · exact RowT.kept (F 10 rfl rfl).2.2 hg (by simp)
  · have N : ∀ i, (Array.replicate 18 false).getD i false = false := by
      intro i
      rw [Array.getD_eq_getD_getElem?, Array.getElem?_replicate]
      split <;> rfl
    refine ⟨by simp, fun i _ => N i, fun i k hi => ?_, World.grownBy.refl _ _, rfl, rfl, fun _ _ => rfl, fun i hi => ?_, fun i _ hi => ?_, fun i j _ _ hi => ?_⟩ <;> (rw [N] at hi; cases hi)

end Go.Proofs.YbulkczjkFmt
