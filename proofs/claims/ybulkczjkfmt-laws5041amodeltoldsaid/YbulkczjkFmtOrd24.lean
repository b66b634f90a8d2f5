/-
  zzs5041abuild: the statement that appends a message: in whatever order: by an invariant.
-/
import Derived.Test.YbulkczjkFmtMsg
import Derived.Test.YbulkczjkFmtOrd2
import Derived.Deep.AppendLies
namespace Go.Proofs.YbulkczjkFmt
open Go.RowKit Go.Maps

noncomputable def ops24 : Array Oper := (Ybaf.f7.body.bind (opsIn 24)).getD #[]

def dp (i : Nat) : List Nat := match i with
  | 2 => [1] | 3 => [2] | 4 => [3] | 6 => [5] | 9 => [8] | 10 => [9] | 12 => [10, 11] | 14 => [13] | 15 => [14] | 17 => [16] | 18 => [17] | 20 => [19] | 21 => [20] | 22 => [6, 7, 12, 15, 18, 21] | 23 => [22] | _ => []

def op24 (i : Nat) : Op := match i with
  | 0 => .move (.tmp 18) | 1 => .move (.tmp 18) | 2 => .nilCheck (.tmp 111) | 3 => .fieldAddr 47 (.tmp 112) 6 | 4 => .load 43 (.tmp 113)
  | 5 => .fieldAddr 37 (.tmp 23) 4 | 6 => .load 4 (.tmp 115) | 7 => .move (.tmp 17)
  | 8 => .fieldAddr 37 (.tmp 23) 0 | 9 => .load 5 (.tmp 118) | 10 => .convert 5 3 (.tmp 119) | 11 => .move (.tmp 0) | 12 => .binOp .rem 3 (.tmp 120) (.tmp 121) 3
  | 13 => .fieldAddr 37 (.tmp 23) 1 | 14 => .load 5 (.tmp 123) | 15 => .convert 5 3 (.tmp 124)
  | 16 => .fieldAddr 37 (.tmp 23) 2 | 17 => .load 5 (.tmp 126) | 18 => .convert 5 3 (.tmp 127)
  | 19 => .fieldAddr 37 (.tmp 23) 3 | 20 => .load 5 (.tmp 129) | 21 => .convert 5 3 (.tmp 130)
  | 22 => .build 39 #[(1, .tmp 116), (2, .tmp 117), (3, .tmp 122), (7, .tmp 125), (8, .tmp 128), (6, .tmp 131)]
  | _ => .buildSlice 43 1 #[(0, .tmp 132)]

theorem ops24_all : (List.range 24).map (fun i => (ops24[i]?).map rowOf) = (List.range 24).map (fun i => some (some (110 + i), op24 i, none, dp i)) := by kernel_rfl

theorem ops24_at (i : Nat) (h : i < 24) : ∃ o, ops24[i]? = some o ∧ o.dst = some (110 + i) ∧ o.op = op24 i ∧ o.guard = none ∧ (∀ k ∈ dp i, ∃ e ∈ o.after, Region.binds .any e = true ∧ e.on = k) ∧ ∀ e ∈ o.after, Region.binds .any e = true → e.on ∈ dp i := by
  have h1 := congrArg (fun l => l[i]?) ops24_all
  simp only [List.getElem?_map, List.getElem?_range h, Option.map_some, Option.some.injEq] at h1
  cases ho : ops24[i]? with
  | none => rw [ho] at h1; cases h1
  | some o =>
    rw [ho] at h1
    simp only [Option.map_some, Option.some.injEq, rowOf, Prod.mk.injEq] at h1
    obtain ⟨a1, a2, a3, a4⟩ := h1
    refine ⟨o, rfl, a1, a2, a3, fun k hk => ?_, fun e he hb => ?_⟩
    · rw [← a4] at hk
      obtain ⟨e, he, rfl⟩ := List.mem_map.1 hk
      obtain ⟨h1, h2⟩ := List.mem_filter.1 he
      exact ⟨e, by simpa using h1, h2, rfl⟩
    · rw [← a4]
      exact List.mem_map.2 ⟨e, List.mem_filter.2 ⟨by simpa using he, hb⟩, rfl⟩

theorem ops24_size : ops24.size = 28 := by kernel_rfl
theorem hi24 : (ops24[24]?).map (fun o => (o.dst, o.op, o.guard)) = some (some 134, .call { callee := .builtin .append, args := #[.tmp 114, .tmp 133], argTypes := #[43, 43] }, none) := by kernel_rfl
theorem hi25 : (ops24[25]?).map (fun o => (o.dst, o.op, o.guard)) = some (some 135, .nilCheck (.tmp 110), none) := by kernel_rfl
theorem hi26 : (ops24[26]?).map (fun o => (o.dst, o.op, o.guard)) = some (some 136, .fieldAddr 47 (.tmp 135) 6, none) := by kernel_rfl
theorem hi27 : (ops24[27]?).map (fun o => (o.dst, o.op, o.guard)) = some (none, .store 43 (.tmp 136) (.tmp 134), none) := by kernel_rfl
theorem hd24 : (ops24[24]?).map (fun o => [4, 23].all fun k => o.after.toList.any fun e => Region.binds .any e && e.on == k) = some true := by kernel_rfl
theorem hd25 : (ops24[25]?).map (fun o => o.after.toList.any fun e => Region.binds .any e && e.on == 24) = some true := by kernel_rfl
theorem hd26 : (ops24[26]?).map (fun o => o.after.toList.any fun e => Region.binds .any e && e.on == 24) = some true := by kernel_rfl
theorem hd27 : (ops24[27]?).map (fun o => o.after.toList.any fun e => Region.binds .any e && e.on == 24) = some true := by kernel_rfl

theorem hi_at24 {i : Nat} {x : Option Tmp × Op × Option (Nat × Bool)} (h : (ops24[i]?).map (fun o => (o.dst, o.op, o.guard)) = some x) : ∃ o, ops24[i]? = some o ∧ o.dst = x.1 ∧ o.op = x.2.1 ∧ o.guard = x.2.2 := by
  cases ho : ops24[i]? with
  | none => rw [ho] at h; cases h
  | some o => rw [ho] at h; simp at h; subst h; exact ⟨o, rfl, rfl, rfl, rfl⟩

/-- What is at hand: the message, its block P, the LogChecker lc, its messages v. -/
structure At24 (w : World) (lc P n : Nat) (x : Msg) (v : Value) : Prop where
  c6 : w.cell? ⟨lc, 6, none⟩ = some v
  p0 : w.cell? ⟨P, 0, none⟩ = some (.int .u8 x.sd)
  p1 : w.cell? ⟨P, 1, none⟩ = some (.int .u8 x.bs)
  p2 : w.cell? ⟨P, 2, none⟩ = some (.int .u8 x.bc)
  p3 : w.cell? ⟨P, 3, none⟩ = some (.int .u8 x.ow)
  p4 : w.cell? ⟨P, 4, none⟩ = some (.bool x.st)
  lt : x.sd < 256 ∧ x.bs < 256 ∧ x.bc < 256 ∧ x.ow < 256
  n1 : ¬ n = 0

def v24 (w : World) (lc P n g : Nat) (x : Msg) (v : Value) (i : Nat) : Value := match i with
  | 0 => .pointer (some ⟨lc, 0, none⟩) | 1 => .pointer (some ⟨lc, 0, none⟩) | 2 => .pointer (some ⟨lc, 0, none⟩) | 3 => .pointer (some ⟨lc, 6, none⟩) | 4 => v
  | 5 => .pointer (some ⟨P, 4, none⟩) | 6 => .bool x.st | 7 => .pointer (some ⟨g, 0, none⟩)
  | 8 => .pointer (some ⟨P, 0, none⟩) | 9 => .int .u8 x.sd | 10 => .int .i64 x.sd | 11 => .int .i64 n | 12 => .int .i64 ((x.sd : Int) % (n : Int))
  | 13 => .pointer (some ⟨P, 1, none⟩) | 14 => .int .u8 x.bs | 15 => .int .i64 x.bs
  | 16 => .pointer (some ⟨P, 2, none⟩) | 17 => .int .u8 x.bc | 18 => .int .i64 x.bc
  | 19 => .pointer (some ⟨P, 3, none⟩) | 20 => .int .u8 x.ow | 21 => .int .i64 x.ow
  | 22 => .agg (msgC n g x x.bs x.bc x.ow).toArray
  | _ => .slice (some ⟨w.heap.size, 0, none⟩) 1 1

structure Inv24 (W : World) (a0 : Act) (lc P n g : Nat) (x : Msg) (v : Value) (listed : Array Bool) (a : Act) (w : World) : Prop where
  sz : listed.size = 28
  low : ∀ i, 24 ≤ i → listed.getD i false = false
  cl : ∀ i k, listed.getD i false = true → k ∈ dp i → listed.getD k false = true
  wd : w = if listed.getD 23 false then W.alloc (.cells (msgC n g x x.bs x.bc x.ow).toArray 39) else W
  defs : a.defers = a0.defers
  tsz : a.tmps.size = a0.tmps.size
  frame : ∀ s, s < 110 ∨ 133 < s → a.tmps[s]? = a0.tmps[s]?
  slot : ∀ i, listed.getD i false = true → i < 24 → a.tmps[110 + i]? = some (v24 W lc P n g x v i)

section
variable {W : World} {a0 : Act} {lc P n g : Nat} {x : Msg} {v : Value} {listed : Array Bool} {a : Act} {w : World} {Q : Exit → Act → World → Prop}

theorem Inv24.next (h : Inv24 W a0 lc P n g x v listed a w) (hbig : 136 < a0.tmps.size) {i : Nat} {w' : World} (hi : i < 24) (hdep : ∀ k ∈ dp i, listed.getD k false = true)
    (hw : w' = if (listed.setIfInBounds i true).getD 23 false then W.alloc (.cells (msgC n g x x.bs x.bc x.ow).toArray 39) else W) :
    Inv24 W a0 lc P n g x v (listed.setIfInBounds i true) (a.put (some (110 + i)) (v24 W lc P n g x v i)) w' := by
  have hil : i < listed.size := by rw [h.sz]; omega
  have hdl : 110 + i < a.tmps.size := by rw [h.tsz]; omega
  have L := getD_set listed i
  refine ⟨by simp [h.sz], fun j hj => ?_, fun j k hj hk => ?_, hw, h.defs, by simp [Act.put, h.tsz], fun s hs => ?_, fun j hj hj24 => ?_⟩
  · rw [L j hil, if_neg (by omega)]; exact h.low j hj
  · rw [L k hil]
    split
    · rfl
    · rw [L j hil] at hj
      by_cases hji : j = i
      · subst hji; exact hdep k hk
      · rw [if_neg hji] at hj; exact h.cl j k hj hk
  · rw [put_at a _ _ s hdl, if_neg (by omega)]; exact h.frame s hs
  · rw [put_at a _ _ _ hdl]
    by_cases hji : j = i
    · subst hji; simp
    · rw [if_neg (by omega)]
      rw [L j hil, if_neg hji] at hj
      exact h.slot j hj hj24

theorem At24.later (h : At24 W lc P n x v) (o : Obj) : At24 (W.alloc o) lc P n x v :=
  ⟨cell_old h.c6, cell_old h.p0, cell_old h.p1, cell_old h.p2, cell_old h.p3, cell_old h.p4, h.lt, h.n1⟩

set_option maxHeartbeats 1600000 in
theorem step24 (h : Inv24 W a0 lc P n g x v listed a w) (hat : At24 W lc P n x v) (hbig : 136 < a0.tmps.size) (h0 : a0.tmps[0]? = some (.int .i64 n)) (h17 : a0.tmps[17]? = some (.pointer (some ⟨g, 0, none⟩))) (h18 : a0.tmps[18]? = some (.pointer (some ⟨lc, 0, none⟩))) (h23 : a0.tmps[23]? = some (.pointer (some ⟨P, 0, none⟩)))
    {i : Nat} (hi : i < 24) (hun : listed.getD i false = false) (hdep : ∀ k ∈ dp i, listed.getD k false = true) :
    wpOp Ybaf.prog ops24 Q i (fun a' w' => Inv24 W a0 lc P n g x v (listed.setIfInBounds i true) a' w') a w := by
  obtain ⟨o, ho, hd, hop, hgu, _, _⟩ := ops24_at i hi
  have hw : At24 w lc P n x v := by
    rw [h.wd]
    split
    · exact hat.later _
    · exact hat
  have hil : i < listed.size := by rw [h.sz]; omega
  have e0 : a.tmps[0]? = some (.int .i64 n) := (h.frame 0 (by omega)).trans h0
  have e17 : a.tmps[17]? = some (.pointer (some ⟨g, 0, none⟩)) := (h.frame 17 (by omega)).trans h17
  have e18 : a.tmps[18]? = some (.pointer (some ⟨lc, 0, none⟩)) := (h.frame 18 (by omega)).trans h18
  have e23 : a.tmps[23]? = some (.pointer (some ⟨P, 0, none⟩)) := (h.frame 23 (by omega)).trans h23
  have S := fun k (hk : listed.getD k false = true) (hk24 : k < 24) => h.slot k hk hk24
  obtain ⟨c6, p0, p1, p2, p3, p4, ⟨l0, l1, l2, l3⟩, n1⟩ := hw
  have htm : ((x.sd : Nat) : Int).tmod (n : Int) = (x.sd : Int) % (n : Int) := Int.tmod_eq_emod_of_nonneg (by omega)
  by_cases h23' : i = 23
  · subst h23'
    have s22 := S 22 (hdep 22 (by simp [dp])) (by omega)
    have hwW : w = W := by rw [h.wd, hun]; rfl
    refine wpOp_val (v := .slice (some ⟨W.heap.size, 0, none⟩) 1 1) (w' := W.alloc (.cells (msgC n g x x.bs x.bc x.ow).toArray 39)) ho hgu ?_ ?_
    · rw [hwW]
      simp [v24] at s22
      simp [execOp, hop, op24, Act.eval, s22, go_sem, msgC]
    · rw [hd]
      exact h.next hbig hi hdep (by rw [getD_set listed 23 23 hil]; rfl)
  · have hstay : w = if (listed.setIfInBounds i true).getD 23 false then W.alloc (.cells (msgC n g x x.bs x.bc x.ow).toArray 39) else W := by
      rw [getD_set listed i 23 hil, if_neg (Ne.symm h23')]
      exact h.wd
    refine wpOp_val (v := v24 W lc P n g x v i) (w' := w) ho hgu ?_ (by rw [hd]; exact h.next hbig hi hdep hstay)
    clear hstay
    have : i = 0 ∨ i = 1 ∨ i = 2 ∨ i = 3 ∨ i = 4 ∨ i = 5 ∨ i = 6 ∨ i = 7 ∨ i = 8 ∨ i = 9 ∨ i = 10 ∨ i = 11 ∨ i = 12 ∨ i = 13 ∨ i = 14 ∨ i = 15 ∨ i = 16 ∨ i = 17 ∨ i = 18 ∨ i = 19 ∨ i = 20 ∨ i = 21 ∨ i = 22 := by omega
    rcases this with rfl | rfl | rfl | rfl | rfl | rfl | rfl | rfl | rfl | rfl | rfl | rfl | rfl | rfl | rfl | rfl | rfl | rfl | rfl | rfl | rfl | rfl | rfl
    · simp [execOp, hop, op24, Act.eval, e18, v24]
    · simp [execOp, hop, op24, Act.eval, e18, v24]
    · have s1 := S 1 (hdep 1 (by simp [dp])) (by omega)
      simp [v24] at s1
      simp [execOp, hop, op24, Act.eval, s1, v24]
    · have s2 := S 2 (hdep 2 (by simp [dp])) (by omega)
      simp [v24] at s2
      simp [execOp, hop, op24, Act.eval, s2, v24, go_sem]
    · have s3 := S 3 (hdep 3 (by simp [dp])) (by omega)
      simp [v24] at s3
      simp [execOp, hop, op24, Act.eval, s3, v24, go_sem, c6]
    · simp [execOp, hop, op24, Act.eval, v24, go_sem, e23]
    · have s5 := S 5 (hdep 5 (by simp [dp])) (by omega)
      simp [v24] at s5
      simp [execOp, hop, op24, Act.eval, s5, v24, go_sem, p4]
    · simp [execOp, hop, op24, Act.eval, v24, e17]
    · simp [execOp, hop, op24, Act.eval, v24, go_sem, e23]
    · have s8 := S 8 (hdep 8 (by simp [dp])) (by omega)
      simp [v24] at s8
      simp [execOp, hop, op24, Act.eval, s8, v24, go_sem, p0]
    · have s9 := S 9 (hdep 9 (by simp [dp])) (by omega)
      simp [v24] at s9
      simp [execOp, hop, op24, Act.eval, s9, v24, go_sem]
      rw [IntKind.wrap_i64]
      omega
    · simp [execOp, hop, op24, Act.eval, v24, e0]
    · have s10 := S 10 (hdep 10 (by simp [dp])) (by omega)
      simp [v24] at s10
      have s11 := S 11 (hdep 11 (by simp [dp])) (by omega)
      simp [v24] at s11
      simp [execOp, hop, op24, Act.eval, s10, s11, v24, go_sem, n1, htm]
    · simp [execOp, hop, op24, Act.eval, v24, go_sem, e23]
    · have s13 := S 13 (hdep 13 (by simp [dp])) (by omega)
      simp [v24] at s13
      simp [execOp, hop, op24, Act.eval, s13, v24, go_sem, p1]
    · have s14 := S 14 (hdep 14 (by simp [dp])) (by omega)
      simp [v24] at s14
      simp [execOp, hop, op24, Act.eval, s14, v24, go_sem]
      rw [IntKind.wrap_i64]
      omega
    · simp [execOp, hop, op24, Act.eval, v24, go_sem, e23]
    · have s16 := S 16 (hdep 16 (by simp [dp])) (by omega)
      simp [v24] at s16
      simp [execOp, hop, op24, Act.eval, s16, v24, go_sem, p2]
    · have s17 := S 17 (hdep 17 (by simp [dp])) (by omega)
      simp [v24] at s17
      simp [execOp, hop, op24, Act.eval, s17, v24, go_sem]
      rw [IntKind.wrap_i64]
      omega
    · simp [execOp, hop, op24, Act.eval, v24, go_sem, e23]
    · have s19 := S 19 (hdep 19 (by simp [dp])) (by omega)
      simp [v24] at s19
      simp [execOp, hop, op24, Act.eval, s19, v24, go_sem, p3]
    · have s20 := S 20 (hdep 20 (by simp [dp])) (by omega)
      simp [v24] at s20
      simp [execOp, hop, op24, Act.eval, s20, v24, go_sem]
      rw [IntKind.wrap_i64]
      omega
    · have s6 := S 6 (hdep 6 (by simp [dp])) (by omega)
      simp [v24] at s6
      have s7 := S 7 (hdep 7 (by simp [dp])) (by omega)
      simp [v24] at s7
      have s12 := S 12 (hdep 12 (by simp [dp])) (by omega)
      simp [v24] at s12
      have s15 := S 15 (hdep 15 (by simp [dp])) (by omega)
      simp [v24] at s15
      have s18 := S 18 (hdep 18 (by simp [dp])) (by omega)
      simp [v24] at s18
      have s21 := S 21 (hdep 21 (by simp [dp])) (by omega)
      simp [v24] at s21
      simp [execOp, hop, op24, Act.eval, s6, s7, s12, s15, s18, s21, v24, go_sem, msgC]

theorem Inv24.some_ready (h : Inv24 W a0 lc P n g x v listed a w) : ∀ i, i < 24 → listed.getD i false = false → ∃ j, j ∈ Region.ready .any ops24 listed := by
  intro i
  induction i using Nat.strongRecOn with
  | ind i ih =>
    intro hi hun
    by_cases hd : ∀ k ∈ dp i, listed.getD k false = true
    · obtain ⟨o, ho, _, _, _, _, hb⟩ := ops24_at i hi
      exact ⟨i, mem_ready.2 ⟨by
        rw [Array.getD_eq_getD_getElem?] at hun ⊢
        rw [Array.getElem?_eq_getElem (show i < listed.size by rw [h.sz]; omega)] at hun ⊢
        exact hun, o, ho, fun e he hbb => hd _ (hb e he hbb)⟩⟩
    · have : ∃ k, k ∈ dp i ∧ listed.getD k false = false := by
        apply Classical.byContradiction
        intro hno
        refine hd fun k hk => ?_
        cases hc : listed.getD k false with
        | true => rfl
        | false => exact absurd ⟨k, hk, hc⟩ hno
      obtain ⟨k, hk, hku⟩ := this
      have hki : k < i := by
        unfold dp at hk
        split at hk <;> simp at hk <;> omega
      exact ih k hki (by omega) hku

/-- All from 1 to 23 stand where 23 and 4 do. -/
theorem Inv24.closed (h : Inv24 W a0 lc P n g x v listed a w) (h4 : listed.getD 4 false = true) (h23 : listed.getD 23 false = true) : ∀ k, 1 ≤ k → k < 24 → listed.getD k false = true := by
  have a3 := h.cl 4 3 h4 (by simp [dp])
  have a2 := h.cl 3 2 a3 (by simp [dp])
  have a1 := h.cl 2 1 a2 (by simp [dp])
  have b22 := h.cl 23 22 h23 (by simp [dp])
  have b6 := h.cl 22 6 b22 (by simp [dp])
  have b7 := h.cl 22 7 b22 (by simp [dp])
  have b12 := h.cl 22 12 b22 (by simp [dp])
  have b15 := h.cl 22 15 b22 (by simp [dp])
  have b18 := h.cl 22 18 b22 (by simp [dp])
  have b21 := h.cl 22 21 b22 (by simp [dp])
  have b5 := h.cl 6 5 b6 (by simp [dp])
  have b10 := h.cl 12 10 b12 (by simp [dp])
  have b11 := h.cl 12 11 b12 (by simp [dp])
  have b9 := h.cl 10 9 b10 (by simp [dp])
  have b8 := h.cl 9 8 b9 (by simp [dp])
  have b14 := h.cl 15 14 b15 (by simp [dp])
  have b13 := h.cl 14 13 b14 (by simp [dp])
  have b17 := h.cl 18 17 b18 (by simp [dp])
  have b16 := h.cl 17 16 b17 (by simp [dp])
  have b20 := h.cl 21 20 b21 (by simp [dp])
  have b19 := h.cl 20 19 b20 (by simp [dp])
  intro k h1 h2
  have : k = 1 ∨ k = 2 ∨ k = 3 ∨ k = 4 ∨ k = 5 ∨ k = 6 ∨ k = 7 ∨ k = 8 ∨ k = 9 ∨ k = 10 ∨ k = 11 ∨ k = 12 ∨ k = 13 ∨ k = 14 ∨ k = 15 ∨ k = 16 ∨ k = 17 ∨ k = 18 ∨ k = 19 ∨ k = 20 ∨ k = 21 ∨ k = 22 ∨ k = 23 := by omega
  rcases this with rfl | rfl | rfl | rfl | rfl | rfl | rfl | rfl | rfl | rfl | rfl | rfl | rfl | rfl | rfl | rfl | rfl | rfl | rfl | rfl | rfl | rfl | rfl <;> assumption

theorem Inv24.ready (h : Inv24 W a0 lc P n g x v listed a w) {i : Nat} (hi : i ∈ Region.ready .any ops24 listed) :
    (i < 24 ∧ listed.getD i false = false ∧ ∀ k ∈ dp i, listed.getD k false = true) ∨ (i = 24 ∧ ∀ k, 1 ≤ k → k < 24 → listed.getD k false = true) := by
  obtain ⟨hun, o, ho, hall⟩ := mem_ready.1 hi
  have hi28 : i < 28 := by
    have := (Array.getElem?_eq_some_iff.1 ho).1
    rw [ops24_size] at this
    exact this
  by_cases h24 : i < 24
  · refine .inl ⟨h24, un_of hun, fun k hk => ?_⟩
    obtain ⟨o', ho', _, _, _, hd, _⟩ := ops24_at i h24
    rw [ho] at ho'
    cases ho'
    obtain ⟨e, he, hb, rfl⟩ := hd k hk
    exact hall e he hb
  · have pull : ∀ {j}, (o.after.toList.any fun e => Region.binds .any e && e.on == j) = true → listed.getD j false = true := by
      intro j hj
      rw [List.any_eq_true] at hj
      obtain ⟨e, he, hb⟩ := hj
      simp at hb
      obtain ⟨hb1, rfl⟩ := hb
      exact hall e (by simpa using he) hb1
    have no24 : ¬ listed.getD 24 false = true := by rw [h.low 24 (by omega)]; simp
    have : i = 24 ∨ i = 25 ∨ i = 26 ∨ i = 27 := by omega
    rcases this with rfl | rfl | rfl | rfl
    · have hd := hd24
      rw [ho] at hd
      simp only [Option.map_some, Option.some.injEq, List.all_eq_true] at hd
      exact .inr ⟨rfl, h.closed (pull (hd 4 (by simp))) (pull (hd 23 (by simp)))⟩
    · have hd := hd25
      rw [ho] at hd
      simp only [Option.map_some, Option.some.injEq] at hd
      exact absurd (pull hd) no24
    · have hd := hd26
      rw [ho] at hd
      simp only [Option.map_some, Option.some.injEq] at hd
      exact absurd (pull hd) no24
    · have hd := hd27
      rw [ho] at hd
      simp only [Option.map_some, Option.some.injEq] at hd
      exact absurd (pull hd) no24

end

end Go.Proofs.YbulkczjkFmt
