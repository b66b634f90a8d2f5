/-
  (*body).accounts: walked.
-/
import Derived.Test.YbulkczhgDoorUint
namespace Go.Proofs.YbulkczhgDoor
open Go.RowKit

/-- k calls of uint, one behind the other: the numbers, and what is left. -/
def runF : Nat → List UInt8 → Nat → Bool → List Nat × List UInt8 × Nat × Bool
  | 0, l, c, nl => ([], l, c, nl)
  | k + 1, l, c, nl =>
    ((runF k l c nl).1 ++ [(uintF (runF k l c nl).2.1 (runF k l c nl).2.2.1).1], (uintF (runF k l c nl).2.1 (runF k l c nl).2.2.1).2)

theorem runF_len (k : Nat) (l : List UInt8) (c : Nat) (nl : Bool) : (runF k l c nl).1.length = k := by
  induction k with
  | zero => rfl
  | succ k ih => simp [runF, ih]

/-- accounts on the bytes. -/
def accF (l : List UInt8) (c : Nat) : List Nat × List UInt8 × Nat × Bool := runF (countF l c).1 (countF l c).2.1 (countF l c).2.2.1 (countF l c).2.2.2

theorem countF_le (l : List UInt8) (c : Nat) : (countF l c).1 ≤ l.length := by
  have := uintF_le l c
  unfold countF
  split
  · simp
  · omega

def cellsI (vs : List Nat) : List Value := vs.map fun (v : Nat) => Value.int .i64 (v : Int)

theorem cell_ne {w : World} {r j : Nat} {v : Value} {a : Addr} (h : a.block ≠ r) : (w.setCell ⟨r, j, none⟩ v).cell? a = w.cell? a :=
  World.cell?_of_block (Below.heap_setCell w ⟨r, j, none⟩ v a.block h)

theorem Body.far {w : World} {g N : Nat} {kd : Int} {a0 a1 : Addr} {l : List UInt8} {c : Nat} {nl : Bool} (h : Body w g N kd a0 a1 l c nl) (r j : Nat) (v : Value) (hr : r ≠ g) (hN : N ≤ r) (h1 : 1 < r) :
    Body (w.setCell ⟨r, j, none⟩ v) g N kd a0 a1 l c nl := by
  obtain ⟨⟨rv, e1, ⟨ao, cp, e2, e3, e4, e5⟩, e6⟩, ⟨v0, v1⟩, hlt, hle⟩ := h
  refine ⟨⟨rv, ?_, ⟨ao, cp, e2, e3, e4, fun hl => ?_⟩, e6⟩, ⟨?_, ?_⟩, hlt, hle⟩
  · rw [Below.heap_setCell _ _ _ _ (by simpa using (Ne.symm hr))]; exact e1
  · obtain ⟨bk, o, q1, q2, q3, q4⟩ := e5 hl
    exact ⟨bk, o, q1, q2, q3, fun j hj => (cell_ne (by simp; omega)).trans (q4 j hj)⟩
  · exact (cell_ne (by simp; omega)).trans v0
  · exact (cell_ne (by simp; omega)).trans v1

theorem Body.glt {w : World} {g N : Nat} {kd : Int} {a0 a1 : Addr} {l : List UInt8} {c : Nat} {nl : Bool} (h : Body w g N kd a0 a1 l c nl) : g < w.heap.size := by
  obtain ⟨⟨rv, e1, _, _⟩, _, _, _⟩ := h
  exact (Array.getElem?_eq_some_iff.1 e1).1

theorem grownBy_far {w a : World} {g r : Nat} (h : w.grownBy a (some g)) (hr : w.heap.size ≤ r) (j : Nat) (v : Value) : w.grownBy (a.setCell ⟨r, j, none⟩ v) (some g) :=
  ⟨h.os, h.tape, h.output, by simpa [World.setCell] using h.size, fun k hk hne => (Below.heap_setCell a ⟨r, j, none⟩ v k (by simp; omega)).trans (h.block k hk hne)⟩

theorem grownBy_none {w a : World} {r : Option Nat} (h : w.grownBy a none) : w.grownBy a r :=
  ⟨h.os, h.tape, h.output, h.size, fun k hk _ => h.block k hk (by simp)⟩

theorem Ybad.info2 : (Ybad.prog.info? 2).map (fun i => (i.zero, i.size, i.bytes)) = some (some (.int .i64 0), 1, 8) := by kernel_rfl

theorem Body.grow {w w' : World} {g N : Nat} {kd : Int} {a0 a1 : Addr} {l : List UInt8} {c : Nat} {nl : Bool} (h : Body w g N kd a0 a1 l c nl) (hg : w.grownBy w' none) : Body w' g N kd a0 a1 l c nl := by
  have hgl := h.glt
  obtain ⟨⟨rv, e1, e2, e3⟩, hv, hlt, hle⟩ := h
  exact ⟨⟨rv, (hg.block g hgl (by simp)).trans e1, e2.grown (grownBy_none hg), e3⟩, hv.grown (grownBy_none hg) hlt, hlt, hle⟩

/-- What a round of the loop does to the row. -/
theorem row_step {w : World} {B r n k : Nat} {vs : List Nat} {v : Nat} (hk : k < n) (hv : vs.length = k) (h : w.ownsRow B 2 1 (.slice (some ⟨r, 0, none⟩) n n) n (cellsI (vs ++ List.replicate (n - k) 0))) :
    (w.setCell ⟨r, k, none⟩ (.int .i64 (v : Int))).ownsRow B 2 1 (.slice (some ⟨r, 0, none⟩) n n) n (cellsI ((vs ++ [v]) ++ List.replicate (n - (k + 1)) 0)) := by
  have hs := (h.stored k (.int .i64 (v : Int))).1
  have e : (cellsI (vs ++ List.replicate (n - k) 0)).set k (.int .i64 (v : Int)) = cellsI ((vs ++ [v]) ++ List.replicate (n - (k + 1)) 0) := by
    have : n - k = (n - (k + 1)) + 1 := by omega
    rw [this, List.replicate_succ]
    subst hv
    simp [cellsI]
  rw [e] at hs
  exact hs

theorem made_zero (n : Nat) : (madeCells #[Value.int .i64 0] n).toList = cellsI ([] ++ List.replicate (n - 0) 0) := by
  apply List.ext_getElem
  · simp [madeCells, cellsI]
  · intro i h1 h2
    simp [madeCells, cellsI, Nat.mod_one]

theorem cellsI_at {n k : Nat} {vs : List Nat} (hk : k < n) (hv : vs.length = k) : (cellsI (vs ++ List.replicate (n - k) 0))[k]? = some (.int .i64 0) := by
  subst hv
  rw [show n - vs.length = (n - (vs.length + 1)) + 1 by omega, List.replicate_succ]
  simp [cellsI]

/-- What holds at the loop's head. -/
def AccRel (w : World) (g N : Nat) (kd : Int) (a0 a1 : Addr) (n r : Nat) (l : List UInt8) (c : Nat) (nl : Bool) (k : Nat) (wr : World) : Prop :=
  Body wr g N kd a0 a1 (runF k l c nl).2.1 (runF k l c nl).2.2.1 (runF k l c nl).2.2.2 ∧
  wr.ownsRow w.heap.size 2 1 (.slice (some ⟨r, 0, none⟩) n n) n (cellsI ((runF k l c nl).1 ++ List.replicate (n - k) 0)) ∧ w.grownBy wr (some g)

theorem AccRel.step {w : World} {g N : Nat} {kd : Int} {a0 a1 : Addr} {n r : Nat} {l : List UInt8} {c : Nat} {nl : Bool} {k : Nat} {wr w1 : World}
    (h : AccRel w g N kd a0 a1 n r l c nl k wr) (hk : k < n) (hN : N ≤ w.heap.size) (hg : g < w.heap.size) (h1g : 1 < g) (hr : w.heap.size ≤ r) {v : Nat} {q : List UInt8 × Nat × Bool}
    (hq : uintF (runF k l c nl).2.1 (runF k l c nl).2.2.1 = (v, q)) (hb1 : Body w1 g N kd a0 a1 q.1 q.2.1 q.2.2) (hgr : wr.grownBy w1 (some g)) :
    AccRel w g N kd a0 a1 n r l c nl (k + 1) (w1.setCell ⟨r, k, none⟩ (.int .i64 (v : Int))) := by
  obtain ⟨_, ho, hw⟩ := h
  have er : runF (k + 1) l c nl = ((runF k l c nl).1 ++ [v], q) := by simp [runF, hq]
  unfold AccRel
  rw [er]
  refine ⟨hb1.far r k _ (by omega) (by omega) (by omega), row_step hk (runF_len k l c nl) (ho.kept hgr (.inr (by simp [Value.ownBlock]; omega))), grownBy_far (grownBy_trans hw hgr) hr k _⟩

set_option maxHeartbeats 400000 in
theorem acc_any (g N : Nat) (kd : Int) (a0 a1 : Addr) (l : List UInt8) (c : Nat) (nl : Bool) (w : World) (hb : Body w g N kd a0 a1 l c nl) (hl : l.length ≤ 100000) (hN : N ≤ w.heap.size) :
    Calls Ybad.prog 10 #[.pointer (some ⟨g, 0, none⟩)] w fun e w' => ∃ r, e = .returned (.slice (some ⟨r, 0, none⟩) (accF l c).1.length (accF l c).1.length) ∧ w.heap.size ≤ r ∧
      w'.ownsRow w.heap.size 2 1 (.slice (some ⟨r, 0, none⟩) (accF l c).1.length (accF l c).1.length) (accF l c).1.length (cellsI (accF l c).1) ∧
      Body w' g N kd a0 a1 (accF l c).2.1 (accF l c).2.2.1 (accF l c).2.2.2 ∧ w.grownBy w' (some g) := by
  have HC := hide (count_any g N kd a0 a1 l c nl w hb (by unfold maxLen; omega))
  have hle := countF_le l c
  have hgl := hb.glt
  have hg1 := hb.lt
  have hacc : accF l c = runF (countF l c).1 (countF l c).2.1 (countF l c).2.2.1 (countF l c).2.2.2 := rfl
  rw [hacc]
  rw [runF_len]
  clear hb hacc
  generalize (countF l c).1 = n at *
  generalize (countF l c).2.1 = l' at *
  generalize (countF l c).2.2.1 = c' at *
  generalize (countF l c).2.2.2 = nl' at *
  obtain ⟨i0, hi, hz0, hz1, hz2⟩ := info_parts Ybad.info2
  go_enter Ybad.func10, Ybad.ntmps10
  go_wp2_with (first
    | (go_at_call 14; refine (HC.out).mono ?_; rintro e w1 ⟨rfl, hb1, hgr1⟩; have HB1 := hide hb1; clear hb1)
    | (at_make; refine wpList_make_full _ rfl _ _ 40 rfl w.heap.size 2 i0 (.int .i64 0) 1 Ybad.underlying40 hi hz0 hz1 .i64 .i64 n n n rfl rfl rfl rfl ?c1 ?c2 ?c3 ?_))
  case c1 => rw [hz2]; omega
  case c2 => unfold maxLen; omega
  case c3 => exact hgr1.size
  intro w2 hown hgr2
  have hr : w.heap.size ≤ w1.heap.size := hgr1.size
  rw [made_zero] at hown
  have HR := hide (show AccRel w g N kd a0 a1 n w1.heap.size l' c' nl' 0 w2 from ⟨HB1.out.grow hgr2, hown, grownBy_trans hgr1 (grownBy_none hgr2)⟩)
  clear hown hgr2 hgr1 HB1 HC hi hz0 hz1 hz2
  generalize w1.heap.size = r at *
  go_wp2
  go_loopw [10] (fun i wr => ∃ k : Nat, k ≤ n ∧ i = .int .i64 k ∧ Hid (AccRel w g N kd a0 a1 n r l' c' nl' k wr)) (fun i _ => n - (intOf i).toNat)
  case atStart => exact ⟨0, Nat.zero_le _, rfl, HR⟩
  case round =>
    obtain ⟨k, hk, rfl, hrel⟩ := hrel
    clear HR
    by_cases hlt : k < n
    · have hu := hide (uint_any g N kd a0 a1 _ _ _ wr hrel.out.1)
      have HQ : ∃ v q, Hid (uintF (runF k l' c' nl').2.1 (runF k l' c' nl').2.2.1 = (v, q)) := ⟨_, _, rfl⟩
      obtain ⟨v, q, HQ⟩ := HQ
      rw [show uintF (runF k l' c' nl').2.1 (runF k l' c' nl').2.2.1 = (v, q) from HQ] at hu
      have hf := fun (wx : World) (hx : wr.grownBy wx (some g)) => (hrel.out.2.1.kept hx (.inr (by simp [Value.ownBlock]; omega)))
      go_wp2_with (go_at_call 15; refine (hu.out).mono ?_; rintro e w3 ⟨rfl, hb3, hgr3⟩; have ho3 := hf w3 hgr3; have k1 := ho3.cellAt k (by omega); have k2 := ho3.frozenAt k; rw [cellsI_at hlt (runF_len k l' c' nl')] at k1; have HB3 := hide hb3; have HG3 := hide hgr3; clear hb3 hgr3 ho3)
      go_roundw
      case rel => exact ⟨k + 1, by omega, by go_num, AccRel.step hrel.out hlt hN hgl hg1 hr HQ HB3.out HG3.out⟩
      case measure => simp [intOf]; omega
    · have : k = n := by omega
      subst this
      go_wp2
      go_ret
      obtain ⟨h1, h2, h3⟩ := hrel.out
      exact ⟨r, rfl, hr, by simpa using h2, h1, h3⟩

end Go.Proofs.YbulkczhgDoor
