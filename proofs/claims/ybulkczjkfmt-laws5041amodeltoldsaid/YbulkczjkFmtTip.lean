/-
  A slice of bytes onto which a call appends: full as it came, or a row of its own; what else was there stands, to the block.
-/
import Derived.Test.YbulkczjkFmtRows
import Derived.WalkKit
import Derived.WalkSpells
import Derived.WalkLawsBesides
import Derived.ArgAppend
import Derived.Lib.Varint
import Derived.Lib.VarintMem
namespace Go.Proofs.YbulkczjkFmt
open Go.RowKit

theorem hide {p : Prop} (h : p) : Hid p := h

structure Tip (W : World) (row : Option Nat) (w : World) (v : Value) (n : Nat) (xs : List Value) : Prop where
  grown : W.grownBy w row
  len : xs.length = n
  val : (∃ ao, v = .slice ao n n ∧ (ao = none → n = 0) ∧ ∀ b, ao = some b → ∀ j u, xs[j]? = some u → w.cell? (b.add j) = some u) ∨
    (∃ g cap, v = .slice (some ⟨g, 0, none⟩) n cap ∧ w.ownsRow 0 5 1 v n xs ∧ (row = some g ∨ W.heap.size ≤ g))

/-- .. a row of its own for sure. -/
structure TipO (W : World) (row : Option Nat) (w : World) (v : Value) (n : Nat) (xs : List Value) : Prop where
  grown : W.grownBy w row
  len : xs.length = n
  val : ∃ g cap, v = .slice (some ⟨g, 0, none⟩) n cap ∧ w.ownsRow 0 5 1 v n xs ∧ (row = some g ∨ W.heap.size ≤ g)

theorem TipO.tip {W : World} {row : Option Nat} {w : World} {v : Value} {n : Nat} {xs : List Value} (h : TipO W row w v n xs) : Tip W row w v n xs := ⟨h.grown, h.len, .inr h.val⟩

theorem grownBy_trans {a b c : World} {r : Option Nat} (h : a.grownBy b r) (k : b.grownBy c r) : a.grownBy c r :=
  ⟨k.os.trans h.os, k.tape.trans h.tape, k.output.trans h.output, Nat.le_trans h.size k.size, fun i hi hr => (k.block i (Nat.lt_of_lt_of_le hi h.size) hr).trans (h.block i hi hr)⟩

theorem grownBy_none {w a : World} {r : Option Nat} (h : w.grownBy a none) : w.grownBy a r :=
  ⟨h.os, h.tape, h.output, h.size, fun k hk _ => h.block k hk (by simp)⟩

/-- A second stretch that writes row r2 alone, r2 the first's row or new. -/
theorem grownBy_then {a b c : World} {r r2 : Option Nat} (h : a.grownBy b r) (k : b.grownBy c r2) (hr : ∀ g, r2 = some g → r = some g ∨ a.heap.size ≤ g) : a.grownBy c r := by
  refine ⟨k.os.trans h.os, k.tape.trans h.tape, k.output.trans h.output, Nat.le_trans h.size k.size, fun i hi hne => ?_⟩
  refine (k.block i (Nat.lt_of_lt_of_le hi h.size) (fun e => ?_)).trans (h.block i hi hne)
  rcases hr i e.symm with h1 | h1
  · exact hne h1.symm
  · omega

theorem owns_weaken {w : World} {B e size : Nat} {v : Value} {n : Nat} {xs : List Value} (h : w.ownsRow B e size v n xs) : w.ownsRow 0 e size v n xs := by
  refine ⟨h.1, h.2.imp id ?_⟩
  rintro ⟨g, cap, cur, a1, _, a3, a4⟩
  exact ⟨g, cap, cur, a1, Nat.zero_le _, a3, a4⟩

theorem owns_shape {w : World} {B : Nat} {v : Value} {n : Nat} {xs : List Value} (h : w.ownsRow B 5 1 v (n + 1) xs) : ∃ g cap, v = .slice (some ⟨g, 0, none⟩) (n + 1) cap ∧ B ≤ g := by
  rcases h.2 with ⟨_, h0⟩ | ⟨g, cap, cur, e, hb, _⟩
  · omega
  · exact ⟨g, cap, e, hb⟩

theorem tip_new {W : World} {row : Option Nat} {w w' : World} {o : Obj} {v' : Value} {n : Nat} {xs : List Value} (hW : W.grownBy w row) (hown : w'.ownsRow (w.alloc o).heap.size 5 1 v' (n + 1) xs) (hg : (w.alloc o).grownBy w' none) :
    TipO W row w' v' (n + 1) xs := by
  obtain ⟨g, cap, e, hb⟩ := owns_shape hown
  have hsz := hW.size
  refine ⟨grownBy_trans hW (grownBy_trans (World.grownBy_alloc w o row) (grownBy_none hg)), by simpa using hown.1, ⟨g, cap, e, owns_weaken hown, .inr (by simp at hb; omega)⟩⟩

theorem one_new (w : World) (u : Value) (t : TypeId) : ∀ j x, [u][j]? = some x → (w.alloc (.cells #[u] t)).cell? ((⟨w.heap.size, 0, none⟩ : Addr).add j) = some x := by
  intro j x hj
  match j, hj with
  | 0, hj => simp at hj; subst hj; simp [Addr.add]

theorem cell_old {w : World} {o : Obj} {a : Addr} {v : Value} (h : w.cell? a = some v) : (w.alloc o).cell? a = some v :=
  (World.cell?_of_block (Below.heap_alloc w o a.block (World.block_lt_of_cell? w a h))).trans h

/-- 'append(buf, u)'. -/
theorem wpList_tip {P : Program} {W : World} {row : Option Nat} {w : World} {v : Value} {n : Nat} {xs : List Value} (h : Tip W row w v n xs) {ops : Array Oper} {rest : List Oper} {o : Oper} {a : Act} {Q : Exit → Act → World → Prop}
    (hgd : o.guard = none) (s x : Operand) (t : TypeId) (ho : o.op = Op.call { callee := Callee.builtin Builtin.append, args := #[s, x], argTypes := #[t, t] })
    (i : TypeInfo) (h1 : P.underlying t = some (.slice 5)) (h2 : P.info? 5 = some i) (h3 : i.zero = some (.int .u8 0)) (h4 : i.size = 1) (h5 : i.bytes = 1)
    (u : Value) (hu : u.oneCell' = true) (hs : a.eval s = v) (hx : a.eval x = .slice (some ⟨w.heap.size, 0, none⟩) 1 1) (hlim : n + 1 ≤ 140737488355328)
    (hK : ∀ v' w', TipO W row w' v' (n + 1) (xs ++ [u]) → wpList P ops Q rest (a.put o.dst v') w') : wpList P ops Q (o :: rest) a (w.alloc (.cells #[u] 5)) := by
  have hone : ∀ y ∈ [u], y.oneCell' = true := by intro y hy; simp at hy; subst hy; exact hu
  have hml : n + 1 ≤ maxLen := by unfold maxLen; omega
  rcases h.val with ⟨ao, rfl, hnone, hcs⟩ | ⟨g, cap, rfl, hown, hrow⟩
  · refine wpList_append_grows (w.alloc (.cells #[u] 5)) hgd s x t ho 5 i (.int .u8 0) 1 1 h1 h2 h3 h4 h5 rfl (by decide) ao n n xs hs (fun e => ⟨hnone e, hnone e⟩) (by rw [h.len, Nat.mul_one]) (fun b hb j y hj => cell_old (hcs b hb j y hj)) ⟨w.heap.size, 0, none⟩ 1 1 [u] hx rfl (one_new w u 5) hone (by omega) hml (by omega) ?_
    intro v' w' hown' hg'
    exact hK v' w' (tip_new h.grown hown' hg')
  · by_cases hfit : n + 1 ≤ cap
    · refine wpList_append_fits (w.alloc (.cells #[u] 5)) hgd s x t ho 0 5 i 1 h1 h2 h4 g n cap xs hs (hown.alloc _) ⟨w.heap.size, 0, none⟩ 1 1 [u] hx rfl (one_new w u 5) hone hfit ?_
      intro w' hown' hg'
      refine hK _ w' ⟨?_, by simp [h.len], g, cap, rfl, hown', hrow⟩
      exact grownBy_then (grownBy_trans h.grown (World.grownBy_alloc w _ row)) hg' (fun g' e => by cases e; exact hrow)
    · have hcells := hown.cells (g := g) rfl
      refine wpList_append_grows (w.alloc (.cells #[u] 5)) hgd s x t ho 5 i (.int .u8 0) 1 1 h1 h2 h3 h4 h5 rfl (by decide) (some ⟨g, 0, none⟩) n cap xs hs (fun e => by cases e) (by rw [h.len, Nat.mul_one]) (fun b hb j y hj => by cases hb; exact cell_old (hcells j y hj)) ⟨w.heap.size, 0, none⟩ 1 1 [u] hx rfl (one_new w u 5) hone (by omega) hml (by omega) ?_
      intro v' w' hown' hg'
      exact hK v' w' (tip_new h.grown hown' hg')

theorem Ybaf.info5 : (Ybaf.prog.info? 5).map (fun i => (i.zero, i.size, i.bytes)) = some (some (.int .u8 0), 1, 1) := by kernel_rfl

theorem byteCells_snoc' (pre : List UInt8) (y : Nat) (hy : y < 256) : Lib.byteCells (pre ++ [y.toUInt8]) = Lib.byteCells pre ++ [Value.int .u8 (y : Int)] := by
  rw [Lib.byteCells_snoc pre hy]

end Go.Proofs.YbulkczjkFmt
