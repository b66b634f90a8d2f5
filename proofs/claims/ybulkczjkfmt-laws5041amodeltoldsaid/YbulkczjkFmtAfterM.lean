/-
  What a crash leaves, in plain words: messages and all.
-/
import Derived.Test.YbulkczjkFmtPlainM
import Derived.Test.YbulkczjkFmtCrash
namespace Go.Proofs.YbulkczjkFmt
open Go.RowKit Go.Maps

/-- Who is crashed behind the crash of t. -/
def crA (cm t j : Nat) : Bool := decide (j = t) || bitN cm j
def owF (n mm cm t : Nat) (ms : Nat → Msg) (i : Nat) : Int := if (ms i).st then owN (crA cm t ((ms i).sd % n)) (bsF ms i) (bcF ms (bitN mm t) i) (svN mm cm n t false) else ow0 ms i
def owK (n mm cm t : Nat) (ms : Nat → Msg) (k i : Nat) : Int := if i < k then owF n mm cm t ms i else ow0 ms i
def dN (n mm cm t : Nat) (ms : Nat → Msg) : Nat → Int
  | 0 => 0
  | k + 1 => dN n mm cm t ms k + (owF n mm cm t ms k - ow0 ms k)

theorem sv_le (mm cm n t : Nat) (b : Bool) (hn : n ≤ 4) : -1 ≤ svN mm cm n t b ∧ svN mm cm n t b ≤ 4 := by
  have := survN_le mm cm n
  unfold svN
  cases b <;> cases bitN mm t <;> simp <;> omega
theorem bsF_le (ms : Nat → Msg) (i : Nat) (h : (ms i).bs < 256) : -1 ≤ bsF ms i ∧ bsF ms i ≤ 256 := by
  unfold bsF
  cases hitB ms i <;> simp <;> omega
theorem bcF_le (ms : Nat → Msg) (b : Bool) (i : Nat) (h : (ms i).bc < 256) : 0 ≤ bcF ms b i ∧ bcF ms b i ≤ 256 := by
  unfold bcF
  cases hitB ms i <;> cases b <;> simp <;> omega
theorem owF_le (n mm cm t : Nat) (ms : Nat → Msg) (i : Nat) (hn : n ≤ 4) (h1 : (ms i).bc < 256) (h2 : (ms i).ow < 256) : -1 ≤ owF n mm cm t ms i ∧ owF n mm cm t ms i ≤ 260 := by
  have h3 := bcF_le ms (bitN mm t) i h1
  have h4 := sv_le mm cm n t false hn
  unfold owF owN ow0
  split <;> (try split) <;> omega
theorem dN_le (n mm cm t L : Nat) (ms : Nat → Msg) (hn : n ≤ 4) (h : ∀ i, i < L → (ms i).bc < 256 ∧ (ms i).ow < 256) : ∀ k, k ≤ L → -256 * (k : Int) ≤ dN n mm cm t ms k ∧ dN n mm cm t ms k ≤ 260 * (k : Int)
  | 0, _ => by simp [dN]
  | k + 1, hk => by
    have h1 := dN_le n mm cm t L ms hn h k (by omega)
    obtain ⟨h2, h3⟩ := h k (by omega)
    have h4 := owF_le n mm cm t ms k hn h2 h3
    unfold dN ow0
    omega

theorem owK_zero (n mm cm t : Nat) (ms : Nat → Msg) (i : Nat) : owK n mm cm t ms 0 i = ow0 ms i := by simp [owK]
theorem owK_end (n mm cm t L : Nat) (ms : Nat → Msg) (i : Nat) (h : i < L) : owK n mm cm t ms L i = owF n mm cm t ms i := by simp [owK, h]
theorem owK_succ (n mm cm t k : Nat) (ms : Nat → Msg) (i : Nat) : owK n mm cm t ms (k + 1) i = at1 (owK n mm cm t ms k) k (owF n mm cm t ms k) i := by
  unfold owK at1
  by_cases e : i = k
  · subst e; simp
  · rw [if_neg e]
    show _ = if i < k then owF n mm cm t ms i else ow0 ms i
    by_cases h : i < k
    · rw [if_pos h, if_pos (by omega)]
    · rw [if_neg h, if_neg (by omega)]
theorem owK_off (n mm cm t k : Nat) (ms : Nat → Msg) (h : (ms k).st = false) (i : Nat) : owK n mm cm t ms (k + 1) i = owK n mm cm t ms k i := by
  rw [owK_succ]
  unfold at1
  split
  · subst_vars; simp [owK, owF, h]
  · rfl
theorem dN_off (n mm cm t k : Nat) (ms : Nat → Msg) (h : (ms k).st = false) : dN n mm cm t ms (k + 1) = dN n mm cm t ms k := by
  simp [dN, owF, h]

theorem same_int (k i : Nat) : Lit.sameKey (.int .i64 (k : Int)) (.int .i64 (i : Int)) = decide (k = i) := by
  unfold Lit.sameKey
  rw [decide_eq_decide]
  constructor
  · rintro ⟨_, h⟩; omega
  · rintro rfl; exact ⟨rfl, rfl⟩

theorem bsL_hit (ms : Nat → Msg) (left : Lit → Bool) (i : Nat) (hl : left (.int .i64 i) = true) (hh : hitB ms i = true) (k : Nat) :
    bsL ms (fun z => left z && !z.sameKey (.int .i64 i)) k = at1 (bsL ms left) i (bsL ms left i - 1) k := by
  unfold bsL at1
  simp only [same_int]
  by_cases e : k = i
  · subst e; simp [hl, hh]
  · simp [e]
theorem bsL_off (ms : Nat → Msg) (left : Lit → Bool) (i : Nat) (hh : hitB ms i = false) (k : Nat) :
    bsL ms (fun z => left z && !z.sameKey (.int .i64 i)) k = bsL ms left k := by
  unfold bsL
  simp only [same_int]
  by_cases e : k = i
  · subst e; simp [hh]
  · simp [e]
theorem bcL_hit (ms : Nat → Msg) (left : Lit → Bool) (i : Nat) (hl : left (.int .i64 i) = true) (hh : hitB ms i = true) (k : Nat) :
    bcL ms true (fun z => left z && !z.sameKey (.int .i64 i)) k = at1 (bcL ms true left) i (bcL ms true left i + 1) k := by
  unfold bcL at1
  simp only [same_int]
  by_cases e : k = i
  · subst e; simp [hl, hh]
  · simp [e]
theorem bcL_off (ms : Nat → Msg) (b : Bool) (left : Lit → Bool) (i : Nat) (hh : (hitB ms i && b) = false) (k : Nat) :
    bcL ms b (fun z => left z && !z.sameKey (.int .i64 i)) k = bcL ms b left k := by
  unfold bcL
  simp only [same_int]
  by_cases e : k = i
  · subst e; simp [hh]
  · simp [e]
theorem bsL_le (ms : Nat → Msg) (left : Lit → Bool) (i : Nat) (h : (ms i).bs < 256) : -1 ≤ bsL ms left i ∧ bsL ms left i ≤ 256 := by
  unfold bsL
  split <;> omega
theorem bcL_le (ms : Nat → Msg) (b : Bool) (left : Lit → Bool) (i : Nat) (h : (ms i).bc < 256) : 0 ≤ bcL ms b left i ∧ bcL ms b left i ≤ 256 := by
  unfold bcL
  split <;> omega

/-- What Crash leaves. -/
structure AfterM (B n mm cm t L : Nat) (ms : Nat → Msg) (bs bc ow : Nat → Int) (ex sv : Int) (w w' : World) (lc g : Nat) (m : Nat → Nat) (ao : Option Addr) (mc : Nat) (va : Option Addr) (vc : Nat) : Prop where
  row : RowT w' 47 lc (((lcCells n m).set 6 (.slice va L vc)).set 11 (.int .i64 ex))
  msgs : 0 < L → ∃ q, va = some ⟨q, 0, none⟩ ∧ RowM w' q vc L (msgL n g ms bs bc ow L)
  grp : RowT w' 30 g [.slice ao (memN mm n).length mc, .int .i64 sv]
  crashed : RowT w' 4 (m 6) ((crL cm n n).set t (.bool true))
  stopped : RowT w' 4 (m 8) (List.replicate n (.bool false))
  last : RowT w' 4 (m 10) (List.replicate n (.bool false))
  below : Below B w w'

theorem But.join {S T : List Nat} {a b c : World} (h : But S a b) (k : But T b c) (hT : ∀ x ∈ T, x ∈ S) : But S a c :=
  ⟨k.os.trans h.os, k.tape.trans h.tape, k.output.trans h.output, Nat.le_trans h.size k.size, fun i hi hne => (k.block i (Nat.lt_of_lt_of_le hi h.size) (fun e => hne (hT i e))).trans (h.block i hi hne)⟩
theorem But.more {S T : List Nat} {a b : World} (h : But S a b) (hT : ∀ x ∈ S, x ∈ T) : But T a b :=
  ⟨h.os, h.tape, h.output, h.size, fun i hi hne => h.block i hi (fun e => hne (hT i e))⟩
theorem But.rowM {S : List Nat} {w w' : World} {q cap L : Nat} {xs : List Value} (h : But S w w') (hr : RowM w q cap L xs) (hq : q ∉ S) : RowM w' q cap L xs := by
  obtain ⟨cur, h1, h2⟩ := hr
  exact ⟨cur, (h.block q (Array.getElem?_eq_some_iff.1 h1).1 hq).trans h1, h2⟩
theorem RowM.lt {w : World} {q cap L : Nat} {xs : List Value} (h : RowM w q cap L xs) : q < w.heap.size := by
  obtain ⟨cur, h1, _⟩ := h
  exact (Array.getElem?_eq_some_iff.1 h1).1
theorem RowM.below {w w' : World} {q cap L : Nat} {xs : List Value} (h : RowM w q cap L xs) (hb : Below w.heap.size w w') : RowM w' q cap L xs := by
  obtain ⟨cur, h1, h2⟩ := h
  exact ⟨cur, (hb.block q (Array.getElem?_eq_some_iff.1 h1).1).trans h1, h2⟩

theorem crA_at (cm n t j : Nat) (hj : j < n) : ((crL cm n n).set t (.bool true))[j]? = some (.bool (crA cm t j)) := by
  rw [List.getElem?_set]
  unfold crA
  by_cases e : t = j
  · subst e
    simp [crL, hj]
  · rw [if_neg e]
    simp [crL, hj, Ne.symm e]

/-- Where the messages lie. -/
theorem BuiltM.place {B n mm cm t L : Nat} {ms : Nat → Msg} {w : World} {lc g : Nat} {m : Nat → Nat} {ao : Option Addr} {mc nd dl : Nat} {va : Option Addr} {vc : Nat} (h : BuiltM B n mm cm t L ms w lc g m ao mc nd dl (.slice va L vc)) :
    ∃ q, B ≤ q ∧ q ≠ g ∧ q ≠ lc ∧ q ≠ m 6 ∧ q ≠ dl ∧ q ≠ m 8 ∧ q ≠ m 10 ∧ (0 < L → va = some ⟨q, 0, none⟩ ∧ q < w.heap.size ∧ RowM w q vc L (msgL n g ms (bs0 ms) (bc0 ms) (ow0 ms) L)) := by
  by_cases h0 : 0 < L
  · rcases h.msgs.2 with ⟨_, e⟩ | ⟨q, cap, cur, e, hb, a3, a4, a5, a6, a7⟩
    · omega
    · simp only [Value.slice.injEq] at e
      obtain ⟨rfl, _, rfl⟩ := e
      have nr : ∀ {t' : TypeId} {b : Nat} {xs : List Value}, RowT w t' b xs → t' ≠ 39 → q ≠ b := by
        rintro t' b xs hr ht rfl
        unfold RowT at hr
        rw [hr] at a3
        simp only [Option.some.injEq, Obj.cells.injEq] at a3
        exact ht a3.2.1
      have nd : q ≠ dl := by
        rintro rfl
        obtain ⟨es, cl, hm, _⟩ := h.deliv
        rw [hm] at a3
        cases a3
      exact ⟨q, hb, nr h.grp (by decide), nr h.row (by decide), nr h.crashed (by decide), nd, nr h.stopped (by decide), nr h.last (by decide), fun _ => ⟨rfl, (Array.getElem?_eq_some_iff.1 a3).1, cur, a3, a4, a5, a6, a7⟩⟩
  · have h1 := h.row.lt
    have h2 := h.grp.lt
    have h3 := h.crashed.lt
    have h4 := h.deliv.lt
    have h5 := h.stopped.lt
    have h6 := h.last.lt
    have h7 := h.le
    exact ⟨w.heap.size, by omega, by omega, by omega, by omega, by omega, by omega, by omega, fun h => absurd h h0⟩

end Go.Proofs.YbulkczjkFmt
