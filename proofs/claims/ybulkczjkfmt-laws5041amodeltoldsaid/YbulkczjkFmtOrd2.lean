/-
  zzs5041abuild: the statement that makes the LogChecker, whole.
-/
import Derived.Test.YbulkczjkFmtOrd
namespace Go.Proofs.YbulkczjkFmt
open Go.RowKit Go.Maps

theorem countP_one (p q : Nat → Bool) (i : Nat) : ∀ l : List Nat, l.Nodup → i ∈ l → p i = true → q i = false → (∀ j, j ≠ i → p j = q j) → l.countP p = l.countP q + 1
  | [], _, h, _, _, _ => by cases h
  | x :: r, hn, h, hp, hq, he => by
    rw [List.nodup_cons] at hn
    rw [List.countP_cons, List.countP_cons]
    by_cases hx : x = i
    · subst hx
      have hr : r.countP p = r.countP q := List.countP_congr fun j hj => by rw [he j (fun e => hn.1 (e ▸ hj))]
      simp [hp, hq, hr]
    · have hi : i ∈ r := by
        rcases List.mem_cons.1 h with e | e
        · exact absurd e.symm hx
        · exact e
      rw [countP_one p q i r hn.2 hi hp hq he, he x hx]
      omega

theorem hi_all : (ops12[15]?).map (fun o => (o.dst, o.op, o.guard)) = some (some 71, .build 47 #[(0, .tmp 59), (1, .tmp 60), (2, .tmp 62), (3, .tmp 64), (4, .tmp 66), (5, .tmp 67), (7, .tmp 68), (10, .tmp 69), (15, .tmp 70)], none) := by kernel_rfl
theorem hi_16 : (ops12[16]?).map (fun o => (o.dst, o.op, o.guard)) = some (some 72, .box 47 (.tmp 71), none) := by kernel_rfl
theorem hi_17 : (ops12[17]?).map (fun o => (o.dst, o.op, o.guard)) = some (some 18, .assign (.tmp 72), none) := by kernel_rfl
theorem hi_deps : (ops12[15]?).map (fun o => [3, 4, 6, 8, 10, 11, 12, 13, 14].all fun k => o.after.toList.any fun e => Region.binds .any e && e.on == k) = some true := by kernel_rfl
theorem hi_deps16 : (ops12[16]?).map (fun o => o.after.toList.any fun e => Region.binds .any e && e.on == 15) = some true := by kernel_rfl
theorem hi_deps17 : (ops12[17]?).map (fun o => o.after.toList.any fun e => Region.binds .any e && e.on == 16) = some true := by kernel_rfl

theorem hi_at {i : Nat} {x : Option Tmp × Op × Option (Nat × Bool)} (h : (ops12[i]?).map (fun o => (o.dst, o.op, o.guard)) = some x) : ∃ o, ops12[i]? = some o ∧ o.dst = x.1 ∧ o.op = x.2.1 ∧ o.guard = x.2.2 := by
  cases ho : ops12[i]? with
  | none => rw [ho] at h; cases h
  | some o => rw [ho] at h; simp at h; subst h; exact ⟨o, rfl, rfl, rfl, rfl⟩

section
variable {W : World} {a0 : Act} {n g : Nat} {listed : Array Bool} {a : Act} {w : World} {m : Nat → Nat} {Q : Exit → Act → World → Prop}

theorem un_of {i : Nat} (h : listed.getD i true = false) : listed.getD i false = false := by
  rw [Array.getD_eq_getD_getElem?] at h ⊢
  cases hl : listed[i]? with
  | none => rfl
  | some b => rw [hl] at h; exact h

theorem un_to {i : Nat} (hi : i < listed.size) (h : listed.getD i false = false) : listed.getD i true = false := by
  rw [Array.getD_eq_getD_getElem?] at h ⊢
  rw [Array.getElem?_eq_getElem hi] at h ⊢
  exact h

/-- Something may come up. -/
theorem Inv.some_ready (h : Inv W a0 n g listed a w m) : ∀ i, i < 15 → listed.getD i false = false → ∃ j, j ∈ Region.ready .any ops12 listed := by
  intro i
  induction i using Nat.strongRecOn with
  | ind i ih =>
    intro hi hun
    by_cases hd : ∀ k ∈ deps i, listed.getD k false = true
    · obtain ⟨o, ho, _, _, _, _, hb⟩ := ops_at i hi
      exact ⟨i, mem_ready.2 ⟨un_to (by rw [h.sz]; omega) hun, o, ho, fun e he hbb => hd _ (hb e he hbb)⟩⟩
    · have : ∃ k, k ∈ deps i ∧ listed.getD k false = false := by
        apply Classical.byContradiction
        intro hno
        refine hd fun k hk => ?_
        cases hc : listed.getD k false with
        | true => rfl
        | false => exact absurd ⟨k, hk, hc⟩ hno
      obtain ⟨k, hk, hku⟩ := this
      have hki : k < i := by
        unfold deps at hk
        split at hk <;> simp at hk <;> omega
      exact ih k hki (by omega) hku

theorem Inv.low_ready (h : Inv W a0 n g listed a w m) {i k : Nat} (hk : k < 15) (hku : listed.getD k false = false) (hi : i ∈ Region.ready .any ops12 listed) :
    i < 15 ∧ listed.getD i false = false ∧ ∀ k ∈ deps i, listed.getD k false = true := by
  obtain ⟨hun, o, ho, hall⟩ := mem_ready.1 hi
  have hi18 : i < 18 := by
    have := (Array.getElem?_eq_some_iff.1 ho).1
    rw [ops_size] at this
    exact this
  by_cases h15 : i < 15
  · refine ⟨h15, un_of hun, fun k hk => ?_⟩
    obtain ⟨o', ho', _, _, _, hd, _⟩ := ops_at i h15
    rw [ho] at ho'
    cases ho'
    obtain ⟨e, he, hb, rfl⟩ := hd k hk
    exact hall e he hb
  · exfalso
    have pull : ∀ {j}, (o.after.toList.any fun e => Region.binds .any e && e.on == j) = true → listed.getD j false = true := by
      intro j hj
      rw [List.any_eq_true] at hj
      obtain ⟨e, he, hb⟩ := hj
      simp at hb
      obtain ⟨hb1, rfl⟩ := hb
      exact hall e (by simpa using he) hb1
    have : i = 15 ∨ i = 16 ∨ i = 17 := by omega
    rcases this with rfl | rfl | rfl
    · have hd := hi_deps
      rw [ho] at hd
      simp only [Option.map_some, Option.some.injEq, List.all_eq_true] at hd
      have A : ∀ j ∈ [3, 4, 6, 8, 10, 11, 12, 13, 14], listed.getD j false = true := fun j hj => pull (hd j hj)
      have a3 := A 3 (by simp)
      have a6 := A 6 (by simp)
      have a8 := A 8 (by simp)
      have a10 := A 10 (by simp)
      have b0 := h.cl 3 0 a3 (by simp [deps])
      have b1 := h.cl 3 1 a3 (by simp [deps])
      have b2 := h.cl 3 2 a3 (by simp [deps])
      have b5 := h.cl 6 5 a6 (by simp [deps])
      have b7 := h.cl 8 7 a8 (by simp [deps])
      have b9 := h.cl 10 9 a10 (by simp [deps])
      have a4 := A 4 (by simp)
      have a11 := A 11 (by simp)
      have a12 := A 12 (by simp)
      have a13 := A 13 (by simp)
      have a14 := A 14 (by simp)
      have : k = 0 ∨ k = 1 ∨ k = 2 ∨ k = 3 ∨ k = 4 ∨ k = 5 ∨ k = 6 ∨ k = 7 ∨ k = 8 ∨ k = 9 ∨ k = 10 ∨ k = 11 ∨ k = 12 ∨ k = 13 ∨ k = 14 := by omega
      rcases this with rfl | rfl | rfl | rfl | rfl | rfl | rfl | rfl | rfl | rfl | rfl | rfl | rfl | rfl | rfl <;> simp_all
    · have hd := hi_deps16
      rw [ho] at hd
      simp only [Option.map_some, Option.some.injEq] at hd
      have := pull hd
      rw [h.low 15 (by omega)] at this
      cases this
    · have hd := hi_deps17
      rw [ho] at hd
      simp only [Option.map_some, Option.some.injEq] at hd
      have := pull hd
      rw [h.low 16 (by omega)] at this
      cases this

def full : Array Bool := #[true, true, true, true, true, true, true, true, true, true, true, true, true, true, true, false, false, false]

theorem full_eq (hs : listed.size = 18) (hl : ∀ i, i < 15 → listed.getD i false = true) (hh : ∀ i, 15 ≤ i → listed.getD i false = false) : listed = full := by
  apply Array.ext
  · rw [hs]; rfl
  · intro i h1 h2
    have e : listed.getD i false = listed[i] := by simp [Array.getD_eq_getD_getElem?, h1]
    rw [← e]
    have : i < 18 := by omega
    by_cases h15 : i < 15
    · rw [hl i h15]
      have : i = 0 ∨ i = 1 ∨ i = 2 ∨ i = 3 ∨ i = 4 ∨ i = 5 ∨ i = 6 ∨ i = 7 ∨ i = 8 ∨ i = 9 ∨ i = 10 ∨ i = 11 ∨ i = 12 ∨ i = 13 ∨ i = 14 := by omega
      rcases this with rfl | rfl | rfl | rfl | rfl | rfl | rfl | rfl | rfl | rfl | rfl | rfl | rfl | rfl | rfl <;> rfl
    · rw [hh i (by omega)]
      have : i = 15 ∨ i = 16 ∨ i = 17 := by omega
      rcases this with rfl | rfl | rfl <;> rfl

def cnt (listed : Array Bool) : Nat := (List.range 15).countP fun i => !listed.getD i false

theorem any12 (hbig : 70 < a0.tmps.size) (h0 : a0.tmps[0]? = some (.int .i64 n)) (h17 : a0.tmps[17]? = some (.pointer (some ⟨g, 0, none⟩))) (hn : n ≤ 1024)
    (hfin : ∀ a w m, Inv W a0 n g full a w m → wpAny Ybaf.prog .any ops12 Q 3 full a w) :
    ∀ f listed a w m, Inv W a0 n g listed a w m → cnt listed = f → wpAny Ybaf.prog .any ops12 Q (f + 3) listed a w := by
  intro f
  induction f with
  | zero =>
    intro listed a w m h hc
    have hl : ∀ i, i < 15 → listed.getD i false = true := by
      intro i hi
      have := List.countP_eq_zero.1 hc i (List.mem_range.2 hi)
      simpa using this
    obtain rfl := full_eq h.sz hl h.low
    exact hfin a w m h
  | succ f ih =>
    intro listed a w m h hc
    have hex : ∃ k, k < 15 ∧ listed.getD k false = false := by
      apply Classical.byContradiction
      intro hno
      have : cnt listed = 0 := by
        refine List.countP_eq_zero.2 fun i hi => ?_
        have hi' := List.mem_range.1 hi
        cases hg : listed.getD i false with
        | true => simp
        | false => exact absurd ⟨i, hi', hg⟩ hno
      omega
    obtain ⟨k, hk, hku⟩ := hex
    refine ⟨fun hnil => ?_, fun i hi => ?_⟩
    · obtain ⟨j, hj⟩ := h.some_ready k hk hku
      rw [hnil] at hj
      cases hj
    · obtain ⟨hi15, hiu, hdep⟩ := h.low_ready hk hku hi
      refine wpOp_mono ?_ (step_any h hbig h0 h17 hn hi15 hiu hdep)
      rintro a' w' ⟨m', h'⟩
      refine ih _ a' w' m' h' ?_
      have hil : i < listed.size := by rw [h.sz]; omega
      have := countP_one (fun j => !listed.getD j false) (fun j => !(listed.setIfInBounds i true).getD j false) i (List.range 15) List.nodup_range (List.mem_range.2 hi15) (by simp [hiu]) (by simp [getD_set listed i i hil]) (fun j hj => by simp [getD_set listed i j hil, hj])
      unfold cnt at hc ⊢
      omega

end

end Go.Proofs.YbulkczjkFmt
