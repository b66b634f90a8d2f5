/-
  Messages: as they come in, as the LogChecker holds them.
-/
import Derived.Test.YbulkczjkFmtBuild
namespace Go.Proofs.YbulkczjkFmt
open Go.RowKit Go.Maps

/-- A message as it comes in. -/
structure Msg where
  sd : Nat
  bs : Nat
  bc : Nat
  ow : Nat
  st : Bool
  dl : Bool

def msgIn (x : Msg) : List Value := [.int .u8 x.sd, .int .u8 x.bs, .int .u8 x.bc, .int .u8 x.ow, .bool x.st, .bool x.dl]

structure MsgsIn (w : World) (sa : Option Addr) (L : Nat) (ms : Nat → Msg) : Prop where
  at_ : 0 < L → ∃ b o, sa = some ⟨b, o, none⟩ ∧ b < w.heap.size ∧ ∀ i, i < L → ∀ j u, (msgIn (ms i))[j]? = some u → w.cell? ⟨b, o + i * 6 + j, none⟩ = some u
  lt : ∀ i, i < L → (ms i).sd < 256 ∧ (ms i).bs < 256 ∧ (ms i).bc < 256 ∧ (ms i).ow < 256

/-- One message of the LogChecker's, in its cells. -/
def msgC (n g : Nat) (x : Msg) (bs bc ow : Int) : List Value :=
  [.string ⟨#[]⟩, .bool x.st, .pointer (some ⟨g, 0, none⟩), .int .i64 ((x.sd : Int) % (n : Int)), .bool false, .bool false, .int .i64 ow, .int .i64 bs, .int .i64 bc]

def msgL (n g : Nat) (ms : Nat → Msg) (bs bc ow : Nat → Int) (k : Nat) : List Value := (List.range k).flatMap fun i => msgC n g (ms i) (bs i) (bc i) (ow i)

theorem msgL_succ (n g : Nat) (ms : Nat → Msg) (bs bc ow : Nat → Int) (k : Nat) : msgL n g ms bs bc ow (k + 1) = msgL n g ms bs bc ow k ++ msgC n g (ms k) (bs k) (bc k) (ow k) := by
  simp [msgL, List.range_succ]
theorem msgL_len (n g : Nat) (ms : Nat → Msg) (bs bc ow : Nat → Int) (k : Nat) : (msgL n g ms bs bc ow k).length = k * 9 := by
  induction k with
  | zero => rfl
  | succ k ih => rw [msgL_succ, List.length_append, ih]; simp [msgC]; omega

def bs0 (ms : Nat → Msg) (i : Nat) : Int := (ms i).bs
def bc0 (ms : Nat → Msg) (i : Nat) : Int := (ms i).bc
def ow0 (ms : Nat → Msg) (i : Nat) : Int := (ms i).ow

def expN (ms : Nat → Msg) : Nat → Nat
  | 0 => 0
  | k + 1 => expN ms k + (ms k).ow
theorem expN_le (ms : Nat → Msg) (L : Nat) (h : ∀ i, i < L → (ms i).ow < 256) : ∀ k, k ≤ L → expN ms k ≤ 255 * k
  | 0, _ => by simp [expN]
  | k + 1, hk => by
    have h1 := expN_le ms L h k (by omega)
    have h2 := h k (by omega)
    rw [expN]
    omega

/-- The set of the delivered ones. -/
def delD (ms : Nat → Msg) : Nat → DataW Unit
  | 0 => .map []
  | k + 1 => if (ms k).dl then (delD ms k).put (.int .i64 k) (.lit (.bool true)) else delD ms k

theorem Ybaf.info39 : (Ybaf.prog.info? 39).map (fun i => (i.zero, i.size, i.bytes)) = some (some (.agg #[.string ⟨#[]⟩, .bool false, .pointer none, .int .i64 0, .bool false, .bool false, .int .i64 0, .int .i64 0, .int .i64 0]), 9, 72) := by kernel_rfl

end Go.Proofs.YbulkczjkFmt
