/-
  What a crash makes of the messages, in plain words.
-/
import Derived.Test.YbulkczjkFmtMsgSet
import Derived.Test.YbulkczjkFmtRecount
import Derived.Maps.Views
namespace Go.Proofs.YbulkczjkFmt
open Go.RowKit Go.Maps

/-- Sent and delivered. -/
def hitB (ms : Nat → Msg) (i : Nat) : Bool := (ms i).st && (ms i).dl
def bsL (ms : Nat → Msg) (left : Lit → Bool) (i : Nat) : Int := ((ms i).bs : Int) - if hitB ms i && !left (.int .i64 i) then 1 else 0
def bcL (ms : Nat → Msg) (mem : Bool) (left : Lit → Bool) (i : Nat) : Int := ((ms i).bc : Int) + if hitB ms i && mem && !left (.int .i64 i) then 1 else 0
def bsF (ms : Nat → Msg) (i : Nat) : Int := ((ms i).bs : Int) - if hitB ms i then 1 else 0
def bcF (ms : Nat → Msg) (mem : Bool) (i : Nat) : Int := ((ms i).bc : Int) + if hitB ms i && mem then 1 else 0

theorem del_has (ms : Nat → Msg) : ∀ L i, Maps.has (delD ms L) (.int .i64 (i : Nat)) = (decide (i < L) && (ms i).dl)
  | 0, i => by simp [delD, Maps.has]
  | L + 1, i => by
    have ih := del_has ms L i
    have hm : Maps.IsMap (delD ms L) := by
      clear ih
      induction L with
      | zero => exact ⟨[], rfl⟩
      | succ L ihm =>
        rw [delD]
        split
        · obtain ⟨es, e⟩ := ihm
          rw [e]
          exact ⟨_, rfl⟩
        · exact ihm
    rw [delD]
    by_cases e : i = L
    · subst e
      cases hd : (ms i).dl with
      | true => simp only [if_true]; rw [Maps.has_put_same (k := Lit.int .i64 (i : Int)) hm trivial]; simp
      | false => simp only [Bool.false_eq_true, if_false]; rw [ih]; simp [hd]
    · have hne : (Lit.int IntKind.i64 (i : Int)) ≠ Lit.int IntKind.i64 (L : Int) := by
        intro h
        simp at h
        omega
      split
      · rw [Maps.has_put_other hne, ih]
        congr 1
        rw [decide_eq_decide]
        omega
      · rw [ih]
        congr 1
        rw [decide_eq_decide]
        omega

theorem del_key (ms : Nat → Msg) (kl : Lit) : ∀ L, Maps.has (delD ms L) kl = true → ∃ i, i < L ∧ kl = .int .i64 (i : Nat) ∧ (ms i).dl = true
  | 0, h => by simp [delD, Maps.has] at h
  | L + 1, h => by
    rw [delD] at h
    by_cases e : kl = .int .i64 (L : Nat)
    · subst e
      have := del_has ms (L + 1) L
      rw [delD, h] at this
      simp at this
      exact ⟨L, by omega, rfl, this⟩
    · split at h
      · rw [Maps.has_put_other e] at h
        obtain ⟨i, h1, h2, h3⟩ := del_key ms kl L h
        exact ⟨i, by omega, h2, h3⟩
      · obtain ⟨i, h1, h2, h3⟩ := del_key ms kl L h
        exact ⟨i, by omega, h2, h3⟩

theorem bsL_start (ms : Nat → Msg) (L i : Nat) (h : i < L) : bsL ms (Maps.has (delD ms L)) i = bs0 ms i := by
  unfold bsL bs0 hitB
  rw [del_has]
  cases (ms i).st <;> cases (ms i).dl <;> simp [h]
theorem bcL_start (ms : Nat → Msg) (mem : Bool) (L i : Nat) (h : i < L) : bcL ms mem (Maps.has (delD ms L)) i = bc0 ms i := by
  unfold bcL bc0 hitB
  rw [del_has]
  cases (ms i).st <;> cases (ms i).dl <;> cases mem <;> simp [h]
theorem bsL_end (ms : Nat → Msg) (left : Lit → Bool) (hl : ∀ kl, left kl = false) (i : Nat) : bsL ms left i = bsF ms i := by
  unfold bsL bsF; rw [hl]; simp
theorem bcL_end (ms : Nat → Msg) (mem : Bool) (left : Lit → Bool) (hl : ∀ kl, left kl = false) (i : Nat) : bcL ms mem left i = bcF ms mem i := by
  unfold bcL bcF; rw [hl]; simp

end Go.Proofs.YbulkczjkFmt
