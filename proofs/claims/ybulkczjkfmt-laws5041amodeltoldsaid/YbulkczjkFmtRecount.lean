/-
  (*LogChecker).recount: walked.
-/
import Derived.Test.YbulkczjkFmtBuiltM
import Derived.Deep.QuietTactic
import Derived.BigQuiet
import Derived.BigRegion
namespace Go.Proofs.YbulkczjkFmt
open Go.RowKit Go.Maps

/-- What recount reads. -/
structure RcAt (w : World) (lc q cap L i g bc n : Nat) (sd : Nat) (cr : Bool) (ow bs bcv sv ex : Int) : Prop where
  c6 : w.cell? ⟨lc, 6, none⟩ = some (.slice (some ⟨q, 0, none⟩) L cap)
  c2 : w.cell? ⟨lc, 2, none⟩ = some (.slice (some ⟨bc, 0, none⟩) n n)
  c11 : w.cell? ⟨lc, 11, none⟩ = some (.int .i64 ex)
  f11 : w.frozen? ⟨lc, 11, none⟩ = false
  m2 : w.cell? ⟨q, i * 9 + 2, none⟩ = some (.pointer (some ⟨g, 0, none⟩))
  m3 : w.cell? ⟨q, i * 9 + 3, none⟩ = some (.int .i64 sd)
  m6 : w.cell? ⟨q, i * 9 + 6, none⟩ = some (.int .i64 ow)
  f6 : w.frozen? ⟨q, i * 9 + 6, none⟩ = false
  m7 : w.cell? ⟨q, i * 9 + 7, none⟩ = some (.int .i64 bs)
  m8 : w.cell? ⟨q, i * 9 + 8, none⟩ = some (.int .i64 bcv)
  cs : w.cell? ⟨bc, sd, none⟩ = some (.bool cr)
  g1 : w.cell? ⟨g, 1, none⟩ = some (.int .i64 sv)
  ne : q ≠ lc

/-- What is owed anew. -/
def owN (cr : Bool) (bs bcv sv : Int) : Int := if !cr || decide (0 < bs) then bcv + sv else bcv

set_option maxRecDepth 100000 in
set_option maxHeartbeats 1600000 in
theorem recount_any (w : World) (lc q cap L i g bc n sd : Nat) (cr : Bool) (ow bs bcv sv ex : Int) (hi : i < L) (_ : L ≤ 300) (hsd : sd < n) (_ : n ≤ 4)
    (b1 : -1000 ≤ ow ∧ ow ≤ 1000) (b2 : -1000 ≤ bcv ∧ bcv ≤ 1000) (b3 : -1000 ≤ sv ∧ sv ≤ 1000) (b4 : -1000000 ≤ ex ∧ ex ≤ 1000000) (b5 : -1000 ≤ bs ∧ bs ≤ 1000) (h : RcAt w lc q cap L i g bc n sd cr ow bs bcv sv ex) :
    Calls Ybaf.prog 20 #[.pointer (some ⟨lc, 0, none⟩), .int .i64 i] w fun e w' => e = .returned (.tuple #[]) ∧
      ∃ d, w' = ((w.setCell ⟨lc, 11, none⟩ (.int .i64 (ex + (owN cr bs bcv sv - ow)))).setCell ⟨q, i * 9 + 6, none⟩ (.int .i64 (owN cr bs bcv sv))).drewN d := by
  obtain ⟨c6, c2, c11, f11, m2, m3, m6, f6, m7, m8, cs, g1, ne⟩ := h
  cases cr with
  | false =>
    have ho : owN false bs bcv sv = bcv + sv := rfl
    rw [ho]
    go_enter Ybaf.func20, Ybaf.ntmps20
    go_wp2_with fail
    go_quiet (fail)
    go_wp2_with fail
    go_region
    go_wp2_with fail
    go_end0
    exact ⟨rfl, _, rfl⟩
  | true =>
    by_cases hbs : 0 < bs
    · have ho : owN true bs bcv sv = bcv + sv := by simp [owN, hbs]
      rw [ho]
      go_enter Ybaf.func20, Ybaf.ntmps20
      go_wp2_with fail
      go_quiet (fail)
      go_wp2_with fail
      go_region
      go_wp2_with fail
      go_end0
      exact ⟨rfl, _, rfl⟩
    · have ho : owN true bs bcv sv = bcv := by simp [owN, hbs]
      rw [ho]
      go_enter Ybaf.func20, Ybaf.ntmps20
      go_wp2_with fail
      go_quiet (fail)
      go_wp2_with fail
      go_region
      go_wp2_with fail
      go_end0
      exact ⟨rfl, _, rfl⟩

end Go.Proofs.YbulkczjkFmt
