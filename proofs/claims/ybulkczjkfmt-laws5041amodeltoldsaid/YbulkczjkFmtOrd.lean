/-
  zzs5041abuild: the statement that makes the LogChecker: nine allocations in whatever order: by an invariant.
-/
import Derived.Test.YbulkczjkFmtCells
import Derived.Orders
import Derived.Maps.Own
import Derived.WalkKit
import Derived.WalkSpells
import Derived.Laws.Build
namespace Go.Proofs.YbulkczjkFmt
open Go.RowKit Go.Maps

/-- The region of that number. -/
def opsIn (k : Nat) : Code → Option (Array Oper)
  | .region i ops _ => if i = k then some ops else none
  | .seq a b => (opsIn k a).orElse fun _ => opsIn k b
  | .cond _ a b => (opsIn k a).orElse fun _ => opsIn k b
  | .block _ a => opsIn k a
  | .loop a => opsIn k a
  | .scope a => opsIn k a
  | _ => none

noncomputable def ops12 : Array Oper := (Ybaf.f7.body.bind (opsIn 12)).getD #[]

def dst (i : Nat) : Option Tmp := match i with
  | 0 => some 57 | 1 => some 58 | 3 => some 59 | 4 => some 60 | 5 => some 61 | 6 => some 62 | 7 => some 63 | 8 => some 64 | 9 => some 65 | 10 => some 66 | 11 => some 67 | 12 => some 68 | 13 => some 69 | 14 => some 70 | _ => none

def deps (i : Nat) : List Nat := match i with
  | 2 => [0, 1] | 3 => [0, 1, 2] | 6 => [5, 5] | 8 => [7, 7] | 10 => [9, 9] | _ => []

def opOf (i : Nat) : Op := match i with
  | 0 => .makeMap 40 none | 1 => .move (.tmp 17) | 2 => .insert 40 (.tmp 57) (.const (.string ⟨#[103]⟩)) (.tmp 58) | 3 => .move (.tmp 57)
  | 4 => .makeMap 41 none | 5 => .move (.tmp 0) | 6 => .makeSlice 35 (.tmp 61) (.tmp 61) | 7 => .move (.tmp 0) | 8 => .makeSlice 35 (.tmp 63) (.tmp 63)
  | 9 => .move (.tmp 0) | 10 => .makeSlice 35 (.tmp 65) (.tmp 65) | 11 => .makeMap 42 none | 12 => .makeMap 41 none | 13 => .makeMap 44 none | _ => .makeMap 45 none

def rowOf (o : Oper) : Option Tmp × Op × Option (Nat × Bool) × List Nat := (o.dst, o.op, o.guard, (o.after.toList.filter (Region.binds .any)).map (·.on))

theorem ops_all : (List.range 15).map (fun i => (ops12[i]?).map rowOf) = (List.range 15).map (fun i => some (dst i, opOf i, none, deps i)) := by kernel_rfl

theorem ops_at (i : Nat) (h : i < 15) : ∃ o, ops12[i]? = some o ∧ o.dst = dst i ∧ o.op = opOf i ∧ o.guard = none ∧ (∀ k ∈ deps i, ∃ e ∈ o.after, Region.binds .any e = true ∧ e.on = k) ∧ ∀ e ∈ o.after, Region.binds .any e = true → e.on ∈ deps i := by
  have h1 := congrArg (fun l => l[i]?) ops_all
  simp only [List.getElem?_map, List.getElem?_range h, Option.map_some, Option.some.injEq] at h1
  cases ho : ops12[i]? with
  | none => rw [ho] at h1; cases h1
  | some o =>
    rw [ho] at h1
    simp only [Option.map_some, Option.some.injEq, rowOf, Prod.mk.injEq] at h1
    obtain ⟨a1, a2, a3, a4⟩ := h1
    refine ⟨o, rfl, a1, a2, a3, fun k hk => ?_, fun e he hb => ?_⟩
    · rw [← a4] at hk
      obtain ⟨e, he, rfl⟩ := List.mem_map.1 hk
      obtain ⟨h1, h2⟩ := List.mem_filter.1 he
      exact ⟨e, by simpa using h1, h2, rfl⟩
    · rw [← a4]
      exact List.mem_map.2 ⟨e, List.mem_filter.2 ⟨by simpa using he, hb⟩, rfl⟩

theorem ops_size : ops12.size = 18 := by kernel_rfl

/-- How a pointer to a block's head reads. -/
def ptrElem : Value → Option (DataW Unit × List MemPlace)
  | .pointer (some ⟨b, 0, none⟩) => some (.lit (.int .i64 b), [])
  | .pointer none => some (.lit (.bool false), [])
  | _ => none

theorem ptrElem_inv {v : Value} {b : Nat} {ps : List MemPlace} (h : ptrElem v = some (.lit (.int .i64 b), ps)) : v = .pointer (some ⟨b, 0, none⟩) := by
  unfold ptrElem at h
  split at h
  · simp at h; obtain ⟨h, _⟩ := h; rw [Int.ofNat_inj.1 h]
  · simp at h
  · cases h

def RowT (w : World) (t : TypeId) (g : Nat) (xs : List Value) : Prop := w.heap[g]? = some (.cells xs.toArray t (0, 0))

theorem RowT.kept {w w' : World} {t : TypeId} {g : Nat} {xs : List Value} {row : Option Nat} (h : RowT w t g xs) (hg : w.grownBy w' row) (hne : some g ≠ row) : RowT w' t g xs :=
  (hg.block g (Array.getElem?_eq_some_iff.1 h).1 hne).trans h

def kG : Lit := .string [103]
def dG (g : Nat) : DataW Unit := (DataW.map []).put kG (.lit (.int .i64 g))

theorem key_of (s : ByteArray) (h : s.size ≤ maxLen) : keyOf Ybaf.prog 9 (.string s) = some (.string s.data.toList) := Go.WideMaps.keyOf_string_mk Ybaf.underlying9 h

/-- What each allocation has made. -/
def Fact (n g : Nat) (put : Bool) (w : World) (b i : Nat) : Prop := match i with
  | 0 => w.ownsMap Ybaf.prog 9 ptrElem b (if put then 1 else 0) (if put then dG g else .map [])
  | 4 => w.ownsMap (H := Unit) Ybaf.prog 9 (plainElem Ybaf.prog 3) b 0 (.map [])
  | 6 => RowT w 4 b (List.replicate n (.bool false))
  | 8 => RowT w 4 b (List.replicate n (.bool false))
  | 10 => RowT w 4 b (List.replicate n (.bool false))
  | 11 => w.ownsMap Ybaf.prog 9 ptrElem b 0 (.map [])
  | _ => True

theorem Fact.kept {n g : Nat} {put : Bool} {w w' : World} {b i : Nat} {row : Option Nat} (h : Fact n g put w b i) (hg : w.grownBy w' row) (hne : some b ≠ row) : Fact n g put w' b i := by
  unfold Fact at h ⊢
  split at h <;> first
    | exact World.ownsMap.kept h hg hne
    | exact RowT.kept h hg hne
    | trivial

def isAlloc (i : Nat) : Bool := [0, 4, 6, 8, 10, 11, 12, 13, 14].contains i

def val (n g : Nat) (m : Nat → Nat) (i : Nat) : Value := match i with
  | 1 => .pointer (some ⟨g, 0, none⟩)
  | 3 => .map (some (m 0))
  | 5 => .int .i64 n | 7 => .int .i64 n | 9 => .int .i64 n
  | 6 => .slice (some ⟨m 6, 0, none⟩) n n | 8 => .slice (some ⟨m 8, 0, none⟩) n n | 10 => .slice (some ⟨m 10, 0, none⟩) n n
  | i => .map (some (m i))

structure Inv (W : World) (a0 : Act) (n g : Nat) (listed : Array Bool) (a : Act) (w : World) (m : Nat → Nat) : Prop where
  sz : listed.size = 18
  low : ∀ i, 15 ≤ i → listed.getD i false = false
  cl : ∀ i k, listed.getD i false = true → k ∈ deps i → listed.getD k false = true
  grown : W.grownBy w none
  defs : a.defers = a0.defers
  tsz : a.tmps.size = a0.tmps.size
  frame : ∀ s, s < 57 ∨ 70 < s → a.tmps[s]? = a0.tmps[s]?
  slot : ∀ i, listed.getD i false = true → ∀ d, dst i = some d → a.tmps[d]? = some (val n g m i)
  fact : ∀ i, isAlloc i = true → listed.getD i false = true → W.heap.size ≤ m i ∧ m i < w.heap.size ∧ Fact n g (listed.getD 2 false) w (m i) i
  inj : ∀ i j, isAlloc i = true → isAlloc j = true → listed.getD i false = true → listed.getD j false = true → i ≠ j → m i ≠ m j

theorem getD_set (l : Array Bool) (i j : Nat) (hi : i < l.size) : (l.setIfInBounds i true).getD j false = if j = i then true else l.getD j false := by
  simp only [Array.getD_eq_getD_getElem?, Array.getElem?_setIfInBounds]
  by_cases h : i = j
  · subst h; simp [hi]
  · simp [h, Ne.symm h]

theorem dst_range {i d : Nat} (h : dst i = some d) : 57 ≤ d ∧ d ≤ 70 := by
  unfold dst at h
  split at h <;> first
    | (cases h; omega)
    | cases h

theorem dst_inj {i j d : Nat} (h : dst i = some d) (k : dst j = some d) : i = j := by
  unfold dst at h k
  split at h <;> first
    | (cases h; split at k <;> first | rfl | (simp at k))
    | cases h

theorem put_at (a : Act) (d : Nat) (v : Value) (s : Nat) (hd : d < a.tmps.size) : (a.put (some d) v).tmps[s]? = if s = d then some v else a.tmps[s]? := by
  simp only [Act.put, Array.getElem?_setIfInBounds]
  by_cases h : d = s
  · subst h; simp [hd]
  · simp [h, Ne.symm h]

section
variable {W : World} {a0 : Act} {n g : Nat} {listed : Array Bool} {a : Act} {w : World} {m : Nat → Nat}

theorem Inv.move (h : Inv W a0 n g listed a w m) (hbig : 70 < a0.tmps.size) {i d : Nat} (hi : i < 15) (hal : isAlloc i = false) (h2 : i ≠ 2) (hd : dst i = some d) (hdep : ∀ k ∈ deps i, listed.getD k false = true) :
    Inv W a0 n g (listed.setIfInBounds i true) (a.put (some d) (val n g m i)) w m := by
  have hr := dst_range hd
  have hil : i < listed.size := by rw [h.sz]; omega
  have hdl : d < a.tmps.size := by rw [h.tsz]; omega
  have L := getD_set listed i
  have hne : ∀ j, isAlloc j = true → j ≠ i := fun j hj e => by subst e; rw [hal] at hj; cases hj
  refine ⟨by simp [h.sz], fun j hj => ?_, fun j k hj hk => ?_, h.grown, h.defs, by simp [Act.put, h.tsz], fun s hs => ?_, fun j hj e he => ?_, fun j hj hl => ?_, fun j k hj hk hlj hlk hjk => ?_⟩
  · rw [L j hil, if_neg (by omega)]; exact h.low j hj
  · rw [L k hil]
    split
    · rfl
    · rw [L j hil] at hj
      by_cases hji : j = i
      · subst hji; exact hdep k hk
      · rw [if_neg hji] at hj; exact h.cl j k hj hk
  · rw [put_at a d _ s hdl, if_neg (by omega)]; exact h.frame s hs
  · rw [put_at a d _ e hdl]
    by_cases hji : j = i
    · subst hji
      rw [hd] at he
      cases he
      simp
    · rw [if_neg (fun e' => hji (dst_inj he (by rw [e']; exact hd)))]
      rw [L j hil, if_neg hji] at hj
      exact h.slot j hj e he
  · rw [L j hil, if_neg (hne j hj)] at hl
    rw [L 2 hil, if_neg (Ne.symm h2)]
    exact h.fact j hj hl
  · rw [L j hil, if_neg (hne j hj)] at hlj
    rw [L k hil, if_neg (hne k hk)] at hlk
    exact h.inj j k hj hk hlj hlk hjk

theorem val_at {m m' : Nat → Nat} {n g j : Nat} (h : m' j = m j) (h0 : j = 3 → m' 0 = m 0) : val n g m' j = val n g m j := by
  unfold val
  split <;> first
    | rfl
    | (rw [h])
    | (rw [h0 rfl])

theorem Inv.made (h : Inv W a0 n g listed a w m) (hbig : 70 < a0.tmps.size) {i d : Nat} {w' : World} (hi : i < 15) (hal : isAlloc i = true) (hun : listed.getD i false = false) (hdep : ∀ k ∈ deps i, listed.getD k false = true) (hd : dst i = some d)
    (hg : w.grownBy w' none) (hlt : w.heap.size < w'.heap.size) (hf : Fact n g false w' w.heap.size i) :
    Inv W a0 n g (listed.setIfInBounds i true) (a.put (some d) (val n g (fun j => if j = i then w.heap.size else m j) i)) w' (fun j => if j = i then w.heap.size else m j) := by
  have hr := dst_range hd
  have hil : i < listed.size := by rw [h.sz]; omega
  have hdl : d < a.tmps.size := by rw [h.tsz]; omega
  have L := getD_set listed i
  have h2 : i ≠ 2 := fun e => by subst e; cases hal
  have hsz := h.grown.size
  refine ⟨by simp [h.sz], fun j hj => ?_, fun j k hj hk => ?_, ?_, h.defs, by simp [Act.put, h.tsz], fun s hs => ?_, fun j hj e he => ?_, fun j hj hl => ?_, fun j k hj hk hlj hlk hjk => ?_⟩
  · rw [L j hil, if_neg (by omega)]; exact h.low j hj
  · rw [L k hil]
    split
    · rfl
    · rw [L j hil] at hj
      by_cases hji : j = i
      · subst hji; exact hdep k hk
      · rw [if_neg hji] at hj; exact h.cl j k hj hk
  · exact grownBy_trans h.grown hg
  · rw [put_at a d _ s hdl, if_neg (by omega)]; exact h.frame s hs
  · rw [put_at a d _ e hdl]
    by_cases hji : j = i
    · subst hji
      rw [hd] at he
      cases he
      simp
    · rw [if_neg (fun e' => hji (dst_inj he (by rw [e']; exact hd)))]
      rw [L j hil, if_neg hji] at hj
      rw [h.slot j hj e he, val_at (m' := fun j => if j = i then w.heap.size else m j) (if_neg hji)]
      intro e3
      subst e3
      refine if_neg (fun e0 => ?_)
      have := h.cl 3 0 hj (by simp [deps])
      rw [e0, hun] at this
      cases this
  · rw [L 2 hil, if_neg (Ne.symm h2)]
    by_cases hji : j = i
    · subst hji
      rw [if_pos rfl]
      refine ⟨hsz, hlt, ?_⟩
      cases hp : listed.getD 2 false with
      | false => exact hf
      | true =>
        have h0 := h.cl 2 0 hp (by simp [deps])
        have hj0 : j ≠ 0 := fun e => by subst e; rw [h0] at hun; cases hun
        unfold Fact at hf ⊢
        split at hf <;> first
          | exact absurd rfl hj0
          | exact hf
          | trivial
    · rw [if_neg hji]
      rw [L j hil, if_neg hji] at hl
      obtain ⟨f1, f2, f3⟩ := h.fact j hj hl
      exact ⟨f1, Nat.lt_trans f2 hlt, f3.kept hg (by simp)⟩
  · by_cases hji : j = i
    · subst hji
      rw [L k hil, if_neg (Ne.symm hjk)] at hlk
      have := (h.fact k hk hlk).2.1
      simp only [if_pos, if_neg (Ne.symm hjk)]
      omega
    · rw [L j hil, if_neg hji] at hlj
      by_cases hki : k = i
      · subst hki
        have := (h.fact j hj hlj).2.1
        simp only [if_pos, if_neg hji]
        omega
      · rw [L k hil, if_neg hki] at hlk
        simp only [if_neg hji, if_neg hki]
        exact h.inj j k hj hk hlj hlk hjk

theorem Inv.put (h : Inv W a0 n g listed a w m) {w' : World} (h0 : listed.getD 0 false = true) (h1 : listed.getD 1 false = true)
    (hg : w.grownBy w' (some (m 0))) (hf : w'.ownsMap Ybaf.prog 9 ptrElem (m 0) 1 (dG g)) :
    Inv W a0 n g (listed.setIfInBounds 2 true) a w' m := by
  have hil : 2 < listed.size := by rw [h.sz]; omega
  have L := getD_set listed 2
  have f0 := h.fact 0 rfl h0
  refine ⟨by simp [h.sz], fun j hj => ?_, fun j k hj hk => ?_, ?_, h.defs, h.tsz, h.frame, fun j hj e he => ?_, fun j hj hl => ?_, fun j k hj hk hlj hlk hjk => ?_⟩
  · rw [L j hil, if_neg (by omega)]; exact h.low j hj
  · rw [L k hil]
    split
    · rfl
    · rw [L j hil] at hj
      by_cases hji : j = 2
      · subst hji
        simp [deps] at hk
        rcases hk with rfl | rfl
        · exact h0
        · exact h1
      · rw [if_neg hji] at hj; exact h.cl j k hj hk
  · exact grownBy_then h.grown hg (fun k e => by cases e; exact .inr f0.1)
  · have hj2 : j ≠ 2 := fun e => by subst e; cases he
    rw [L j hil, if_neg hj2] at hj
    exact h.slot j hj e he
  · have hj2 : j ≠ 2 := fun e => by subst e; cases hj
    rw [L j hil, if_neg hj2] at hl
    obtain ⟨f1, f2, f3⟩ := h.fact j hj hl
    refine ⟨f1, Nat.lt_of_lt_of_le f2 hg.size, ?_⟩
    rw [L 2 hil, if_pos rfl]
    by_cases hj0 : j = 0
    · subst hj0
      exact hf
    · have hk := f3.kept hg (fun e => h.inj j 0 hj rfl hl h0 hj0 (by simpa using e))
      unfold Fact at hk ⊢
      split at hk <;> first
        | exact absurd rfl hj0
        | exact hk
        | trivial
  · have hj2 : j ≠ 2 := fun e => by subst e; cases hj
    have hk2 : k ≠ 2 := fun e => by subst e; cases hk
    rw [L j hil, if_neg hj2] at hlj
    rw [L k hil, if_neg hk2] at hlk
    exact h.inj j k hj hk hlj hlk hjk

end

theorem wpOp_val {P : Program} {ops : Array Oper} {Q : Exit → Act → World → Prop} {i : Nat} {o : Oper} {K : Act → World → Prop} {a : Act} {w w' : World} {v : Value} (h : ops[i]? = some o) (hg : o.guard = none)
    (hrun : (execOp a.eval o).run P w = .ok (.value v) w') (hK : K (a.put o.dst v) w') : wpOp P ops Q i K a w := by
  have hw : Region.wanted o (yielded ops a.tmps) = true := by simp [Region.wanted, hg]
  unfold wpOp
  simp only [h, hw, if_true]
  refine .inl ?_
  unfold Oper.wp
  rw [hrun]
  exact hK

theorem wpOp_skip {P : Program} {ops : Array Oper} {Q : Exit → Act → World → Prop} {i : Nat} {o : Oper} {K : Act → World → Prop} {a : Act} {w w' : World} (h : ops[i]? = some o) (hg : o.guard = none) (hd : o.dst = none)
    (hrun : (execOp a.eval o).run P w = .ok .skip w') (hK : K a w') : wpOp P ops Q i K a w := by
  have hw : Region.wanted o (yielded ops a.tmps) = true := by simp [Region.wanted, hg]
  unfold wpOp
  simp only [h, hw, if_true]
  refine .inl ?_
  unfold Oper.wp
  rw [hrun]
  simp only [Oper.upon, hd]
  exact hK

theorem eval_tmp {a : Act} {d : Nat} {v : Value} (h : a.tmps[d]? = some v) : a.eval (.tmp d) = v := by
  simp [Act.eval, h]

theorem Ybaf.info4 : (Ybaf.prog.info? 4).map (fun i => (i.zero, i.size, i.bytes)) = some (some (.bool false), 1, 1) := by kernel_rfl

section
variable {W : World} {a0 : Act} {n g : Nat} {listed : Array Bool} {a : Act} {w : World} {m : Nat → Nat} {Q : Exit → Act → World → Prop}

theorem step_made (h : Inv W a0 n g listed a w m) (hbig : 70 < a0.tmps.size) {i d : Nat} (hi : i < 15) (hal : isAlloc i = true) (hun : listed.getD i false = false) (hdep : ∀ k ∈ deps i, listed.getD k false = true) (hd : dst i = some d)
    {v : Value} {w' : World} (hrun : ∀ o : Oper, o.op = opOf i → (execOp a.eval o).run Ybaf.prog w = .ok (.value v) w') (hv : v = val n g (fun j => if j = i then w.heap.size else m j) i)
    (hg : w.grownBy w' none) (hlt : w.heap.size < w'.heap.size) (hf : Fact n g false w' w.heap.size i) :
    wpOp Ybaf.prog ops12 Q i (fun a' w' => ∃ m', Inv W a0 n g (listed.setIfInBounds i true) a' w' m') a w := by
  obtain ⟨o, ho, h1, h2, h3, _, _⟩ := ops_at i hi
  refine wpOp_val ho h3 (hrun o h2) ⟨fun j => if j = i then w.heap.size else m j, ?_⟩
  rw [h1, hd, hv]
  exact h.made hbig hi hal hun hdep hd hg hlt hf

theorem step_move (h : Inv W a0 n g listed a w m) (hbig : 70 < a0.tmps.size) {i d : Nat} (hi : i < 15) (hal : isAlloc i = false) (h2' : i ≠ 2) (hd : dst i = some d) (hdep : ∀ k ∈ deps i, listed.getD k false = true) {x : Operand}
    (hop : opOf i = .move x) (hx : a.eval x = val n g m i) :
    wpOp Ybaf.prog ops12 Q i (fun a' w' => ∃ m', Inv W a0 n g (listed.setIfInBounds i true) a' w' m') a w := by
  obtain ⟨o, ho, h1, h2, h3, _, _⟩ := ops_at i hi
  refine wpOp_val (v := val n g m i) (w' := w) ho h3 ?_ ⟨m, ?_⟩
  · simp [execOp, h2, hop, hx]
  · rw [h1, hd]
    exact h.move hbig hi hal h2' hd hdep

theorem row_made {n b : Nat} {w' : World} (hown : w'.ownsRow 0 4 1 (.slice (some ⟨b, 0, none⟩) n n) n (madeCells #[Value.bool false] (n * 1)).toList) : RowT w' 4 b (List.replicate n (.bool false)) := by
  have e : (madeCells #[Value.bool false] (n * 1)).toList = List.replicate n (.bool false) := by
    apply List.ext_getElem
    · simp [madeCells]
    · intro i h1 h2
      simp [madeCells, Nat.mod_one]
  rw [e] at hown
  rcases hown.2 with ⟨h', _⟩ | ⟨g', cap', cur, h', _, hg, _, _, hs, htake⟩
  · simp at h'
  · simp only [Value.slice.injEq, Option.some.injEq, Addr.mk.injEq, and_true, true_and] at h'
    obtain ⟨rfl, rfl⟩ := h'
    rw [List.take_of_length_le (by simp at hs ⊢; omega)] at htake
    unfold RowT
    rw [hg, ← htake]

theorem step_any (h : Inv W a0 n g listed a w m) (hbig : 70 < a0.tmps.size) (h0 : a0.tmps[0]? = some (.int .i64 n)) (h17 : a0.tmps[17]? = some (.pointer (some ⟨g, 0, none⟩))) (hn : n ≤ 1024) {i : Nat} (hi : i < 15) (hun : listed.getD i false = false) (hdep : ∀ k ∈ deps i, listed.getD k false = true) :
    wpOp Ybaf.prog ops12 Q i (fun a' w' => ∃ m', Inv W a0 n g (listed.setIfInBounds i true) a' w' m') a w := by
  have e0 : a.eval (.tmp 0) = .int .i64 n := eval_tmp ((h.frame 0 (by omega)).trans h0)
  have e17 : a.eval (.tmp 17) = .pointer (some ⟨g, 0, none⟩) := eval_tmp ((h.frame 17 (by omega)).trans h17)
  have hga : w.grownBy (w.alloc (.map #[] 0)) none := World.grownBy_alloc w _ none
  have hgl : w.heap.size < (w.alloc (.map #[] 0)).heap.size := by simp
  have mk : ∀ t, ∀ o : Oper, o.op = .makeMap t none → (execOp a.eval o).run Ybaf.prog w = .ok (.value (.map (some w.heap.size))) (w.alloc (.map #[] 0)) := by
    intro t o ho
    simp [execOp, ho, run_makeMap]
  obtain ⟨i4, hi4, hz0, hz1, hz2⟩ := info_parts Ybaf.info4
  obtain ⟨ws, hrs, hos, hgs⟩ := run_make_full (P := Ybaf.prog) w 0 35 4 i4 (.bool false) 1 Ybaf.underlying35 hi4 hz0 hz1 .i64 .i64 n (by rw [hz2]; omega) (by unfold maxLen; omega) (Nat.zero_le _)
  have hls : w.heap.size < ws.heap.size := (hos.lt w.heap.size rfl).2
  have ms : ∀ x, a.eval (.tmp x) = .int .i64 n → ∀ o : Oper, o.op = .makeSlice 35 (.tmp x) (.tmp x) → (execOp a.eval o).run Ybaf.prog w = .ok (.value (.slice (some ⟨w.heap.size, 0, none⟩) n n)) ws := by
    intro x hx o ho
    simp [execOp, ho, hx, hrs]
  have : i = 0 ∨ i = 1 ∨ i = 2 ∨ i = 3 ∨ i = 4 ∨ i = 5 ∨ i = 6 ∨ i = 7 ∨ i = 8 ∨ i = 9 ∨ i = 10 ∨ i = 11 ∨ i = 12 ∨ i = 13 ∨ i = 14 := by omega
  rcases this with rfl | rfl | rfl | rfl | rfl | rfl | rfl | rfl | rfl | rfl | rfl | rfl | rfl | rfl | rfl
  · exact step_made h hbig (by omega) rfl hun hdep rfl (mk 40) rfl hga hgl (World.ownsMap_made w _ _ _)
  · exact step_move h hbig (by omega) rfl (by omega) rfl hdep rfl e17
  · have L0 := hdep 0 (by simp [deps])
    have L1 := hdep 1 (by simp [deps])
    obtain ⟨f1, f2, f3⟩ := h.fact 0 rfl L0
    have f4 : w.ownsMap Ybaf.prog 9 ptrElem (m 0) 0 (.map []) := by
      rw [hun] at f3
      exact f3
    obtain ⟨w', hr, ho', hg'⟩ := f4.update (string_keyed Ybaf.underlying9) Ybaf.underlying40 (by unfold maxLen; omega) (key := .string ⟨#[103]⟩) (val := .pointer (some ⟨g, 0, none⟩)) (key_of _ (by unfold maxLen; decide)) (d := .lit (.int .i64 g)) (ps := []) rfl
    obtain ⟨o, ho, h1, h2, h3, _, _⟩ := ops_at 2 (by omega)
    have s57 : a.tmps[57]? = some (.map (some (m 0))) := h.slot 0 L0 57 rfl
    have s58 : a.tmps[58]? = some (.pointer (some ⟨g, 0, none⟩)) := h.slot 1 L1 58 rfl
    refine wpOp_skip (w' := w') ho h3 h1 ?_ ⟨m, h.put L0 L1 hg' ho'⟩
    simp [execOp, h2, opOf, s57, s58, Act.eval, hr]
  · have L0 := hdep 0 (by simp [deps])
    exact step_move h hbig (by omega) rfl (by omega) rfl hdep rfl (eval_tmp (h.slot 0 L0 57 rfl))
  · exact step_made h hbig (by omega) rfl hun hdep rfl (mk 41) rfl hga hgl (World.ownsMap_made w _ _ _)
  · exact step_move h hbig (by omega) rfl (by omega) rfl hdep rfl e0
  · exact step_made h hbig (by omega) rfl hun hdep rfl (ms 61 (eval_tmp (h.slot 5 (hdep 5 (by simp [deps])) 61 rfl))) rfl hgs hls (row_made hos)
  · exact step_move h hbig (by omega) rfl (by omega) rfl hdep rfl e0
  · exact step_made h hbig (by omega) rfl hun hdep rfl (ms 63 (eval_tmp (h.slot 7 (hdep 7 (by simp [deps])) 63 rfl))) rfl hgs hls (row_made hos)
  · exact step_move h hbig (by omega) rfl (by omega) rfl hdep rfl e0
  · exact step_made h hbig (by omega) rfl hun hdep rfl (ms 65 (eval_tmp (h.slot 9 (hdep 9 (by simp [deps])) 65 rfl))) rfl hgs hls (row_made hos)
  · exact step_made h hbig (by omega) rfl hun hdep rfl (mk 42) rfl hga hgl (World.ownsMap_made w _ _ _)
  · exact step_made h hbig (by omega) rfl hun hdep rfl (mk 41) rfl hga hgl trivial
  · exact step_made h hbig (by omega) rfl hun hdep rfl (mk 44) rfl hga hgl trivial
  · exact step_made h hbig (by omega) rfl hun hdep rfl (mk 45) rfl hga hgl trivial

end

end Go.Proofs.YbulkczjkFmt
