/-
  The messages' cells: read and written.
-/
import Derived.Test.YbulkczjkFmtBuiltM
namespace Go.Proofs.YbulkczjkFmt
open Go.RowKit Go.Maps

theorem msgC_len (n g : Nat) (x : Msg) (bs bc ow : Int) : (msgC n g x bs bc ow).length = 9 := rfl

theorem msgL_at (n g : Nat) (ms : Nat → Msg) (bs bc ow : Nat → Int) : ∀ L i j, i < L → j < 9 → (msgL n g ms bs bc ow L)[i * 9 + j]? = (msgC n g (ms i) (bs i) (bc i) (ow i))[j]?
  | 0, i, j, h, _ => by omega
  | L + 1, i, j, h, hj => by
    rw [msgL_succ]
    have hl := msgL_len n g ms bs bc ow L
    by_cases e : i = L
    · subst e
      rw [List.getElem?_append_right (by omega), hl, show i * 9 + j - i * 9 = j by omega]
    · rw [List.getElem?_append_left (by omega)]
      exact msgL_at n g ms bs bc ow L i j (by omega) hj

def at1 (f : Nat → Int) (i : Nat) (v : Int) (k : Nat) : Int := if k = i then v else f k

theorem msgL_congr {n g : Nat} {ms : Nat → Msg} {bs bc ow bs' bc' ow' : Nat → Int} {L : Nat} (h : ∀ i, i < L → bs i = bs' i ∧ bc i = bc' i ∧ ow i = ow' i) : msgL n g ms bs bc ow L = msgL n g ms bs' bc' ow' L := by
  induction L with
  | zero => rfl
  | succ L ih =>
    obtain ⟨h1, h2, h3⟩ := h L (by omega)
    rw [msgL_succ, msgL_succ, ih fun i hi => h i (by omega), h1, h2, h3]

theorem msgL_set (n g : Nat) (ms : Nat → Msg) (bs bc ow bs' bc' ow' : Nat → Int) (f : Nat) (u : Value) (i : Nat) (hf : f < 9) (hset : (msgC n g (ms i) (bs i) (bc i) (ow i)).set f u = msgC n g (ms i) (bs' i) (bc' i) (ow' i)) (hoth : ∀ k, k ≠ i → bs k = bs' k ∧ bc k = bc' k ∧ ow k = ow' k) :
    ∀ L, i < L → (msgL n g ms bs bc ow L).set (i * 9 + f) u = msgL n g ms bs' bc' ow' L
  | 0, h => by omega
  | L + 1, h => by
    rw [msgL_succ, msgL_succ]
    have hl := msgL_len n g ms bs bc ow L
    by_cases e : i = L
    · subst e
      rw [List.set_append_right _ _ (by omega), hl, show i * 9 + f - i * 9 = f by omega, hset, msgL_congr fun k hk => hoth k (by omega)]
    · obtain ⟨h1, h2, h3⟩ := hoth L (Ne.symm e)
      rw [List.set_append_left _ _ (by omega), msgL_set n g ms bs bc ow bs' bc' ow' f u i hf hset hoth L (by omega), h1, h2, h3]

theorem msgL_bs (n g : Nat) (ms : Nat → Msg) (bs bc ow : Nat → Int) (L i : Nat) (v : Int) (h : i < L) : (msgL n g ms bs bc ow L).set (i * 9 + 7) (.int .i64 v) = msgL n g ms (at1 bs i v) bc ow L :=
  msgL_set n g ms bs bc ow _ _ _ 7 _ i (by omega) (by simp [msgC, at1]) (fun k hk => by simp [at1, hk]) L h
theorem msgL_bc (n g : Nat) (ms : Nat → Msg) (bs bc ow : Nat → Int) (L i : Nat) (v : Int) (h : i < L) : (msgL n g ms bs bc ow L).set (i * 9 + 8) (.int .i64 v) = msgL n g ms bs (at1 bc i v) ow L :=
  msgL_set n g ms bs bc ow _ _ _ 8 _ i (by omega) (by simp [msgC, at1]) (fun k hk => by simp [at1, hk]) L h
theorem msgL_ow (n g : Nat) (ms : Nat → Msg) (bs bc ow : Nat → Int) (L i : Nat) (v : Int) (h : i < L) : (msgL n g ms bs bc ow L).set (i * 9 + 6) (.int .i64 v) = msgL n g ms bs bc (at1 ow i v) L :=
  msgL_set n g ms bs bc ow _ _ _ 6 _ i (by omega) (by simp [msgC, at1]) (fun k hk => by simp [at1, hk]) L h

/-- The messages' row, its block a letter. -/
def RowM (w : World) (q cap L : Nat) (xs : List Value) : Prop := ∃ cur, w.heap[q]? = some (.cells cur 39 (0, 0)) ∧ L ≤ cap ∧ cap ≤ maxLen ∧ cur.size = cap * 9 ∧ cur.toList.take (L * 9) = xs

theorem RowM.cell {w : World} {q cap L : Nat} {xs : List Value} (h : RowM w q cap L xs) (j : Nat) (hj : j < L * 9) : w.cell? ⟨q, j, none⟩ = xs[j]? := by
  obtain ⟨cur, h1, _, _, _, h5⟩ := h
  rw [cell_of_row w q j _ _ _ h1, ← h5, List.getElem?_take]
  simp [hj]

theorem RowM.frozen {w : World} {q cap L : Nat} {xs : List Value} (h : RowM w q cap L xs) (j : Nat) : w.frozen? ⟨q, j, none⟩ = false := by
  obtain ⟨cur, h1, _⟩ := h
  simp [World.frozen?, h1]

theorem RowM.set {w : World} {q cap L : Nat} {xs : List Value} (h : RowM w q cap L xs) (j : Nat) (u : Value) : RowM (w.setCell ⟨q, j, none⟩ u) q cap L (xs.set j u) := by
  obtain ⟨cur, h1, h2, h3, h4, h5⟩ := h
  refine ⟨cur.setIfInBounds j u, ?_, h2, h3, by simpa using h4, ?_⟩
  · simp only [World.setCell, Array.getElem?_modify]
    simp [h1]
  · rw [← h5]
    simp [List.take_set]

theorem RowM.kept {w w' : World} {q cap L : Nat} {xs : List Value} {row : Option Nat} (h : RowM w q cap L xs) (hg : w.grownBy w' row) (hne : some q ≠ row) : RowM w' q cap L xs := by
  obtain ⟨cur, h1, h2⟩ := h
  exact ⟨cur, (hg.block q (Array.getElem?_eq_some_iff.1 h1).1 hne).trans h1, h2⟩

end Go.Proofs.YbulkczjkFmt
