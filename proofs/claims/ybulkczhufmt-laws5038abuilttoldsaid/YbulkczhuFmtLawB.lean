/-
  LawS5038ABuilt: walked.
-/
import Derived.Test.YbulkczhuFmtName
import Derived.Laws.IdiomStrings
namespace Go.Proofs.YbulkczhuFmt
open Go.RowKit Go.Extern.Stop Go.Stop Go.Extern

theorem info5 : (Ybaf.prog.info? 5).map (fun i => (i.zero, i.size, i.bytes)) = some (some (.int .u8 0), 1, 1) := by kernel_rfl

/-- The table. -/
def tab : List UInt8 := [46, 97, 90, 48, 57, 46, 95, 45, 113, 77, 46]
def pick (z : Int) : UInt8 := tab.getD (z % 11).toNat 46
def cells8 (l : List UInt8) : List Value := l.map fun b => Value.int .u8 b.toNat

/-- A slice of bytes that came in: its elements. -/
def ViewI (w : World) (ao : Option Addr) (n : Nat) (zs : List Int) : Prop :=
  zs.length = n ∧ (0 < n → ∃ b o, ao = some ⟨b, o, none⟩ ∧ b < w.heap.size ∧ ∀ i, i < n → w.cell? ⟨b, o + i, none⟩ = some (.int .u8 (zs.getD i 0)))

theorem run_tab0 (w : World) : (Instr.index 9 (.string ⟨#[46, 97, 90, 48, 57, 46, 95, 45, 113, 77, 46]⟩) (.int .i64 0)).run Ybaf.prog w = .ok (.int .u8 46) w := by kernel_rfl
theorem run_tab1 (w : World) : (Instr.index 9 (.string ⟨#[46, 97, 90, 48, 57, 46, 95, 45, 113, 77, 46]⟩) (.int .i64 1)).run Ybaf.prog w = .ok (.int .u8 97) w := by kernel_rfl
theorem run_tab2 (w : World) : (Instr.index 9 (.string ⟨#[46, 97, 90, 48, 57, 46, 95, 45, 113, 77, 46]⟩) (.int .i64 2)).run Ybaf.prog w = .ok (.int .u8 90) w := by kernel_rfl
theorem run_tab3 (w : World) : (Instr.index 9 (.string ⟨#[46, 97, 90, 48, 57, 46, 95, 45, 113, 77, 46]⟩) (.int .i64 3)).run Ybaf.prog w = .ok (.int .u8 48) w := by kernel_rfl
theorem run_tab4 (w : World) : (Instr.index 9 (.string ⟨#[46, 97, 90, 48, 57, 46, 95, 45, 113, 77, 46]⟩) (.int .i64 4)).run Ybaf.prog w = .ok (.int .u8 57) w := by kernel_rfl
theorem run_tab5 (w : World) : (Instr.index 9 (.string ⟨#[46, 97, 90, 48, 57, 46, 95, 45, 113, 77, 46]⟩) (.int .i64 5)).run Ybaf.prog w = .ok (.int .u8 46) w := by kernel_rfl
theorem run_tab6 (w : World) : (Instr.index 9 (.string ⟨#[46, 97, 90, 48, 57, 46, 95, 45, 113, 77, 46]⟩) (.int .i64 6)).run Ybaf.prog w = .ok (.int .u8 95) w := by kernel_rfl
theorem run_tab7 (w : World) : (Instr.index 9 (.string ⟨#[46, 97, 90, 48, 57, 46, 95, 45, 113, 77, 46]⟩) (.int .i64 7)).run Ybaf.prog w = .ok (.int .u8 45) w := by kernel_rfl
theorem run_tab8 (w : World) : (Instr.index 9 (.string ⟨#[46, 97, 90, 48, 57, 46, 95, 45, 113, 77, 46]⟩) (.int .i64 8)).run Ybaf.prog w = .ok (.int .u8 113) w := by kernel_rfl
theorem run_tab9 (w : World) : (Instr.index 9 (.string ⟨#[46, 97, 90, 48, 57, 46, 95, 45, 113, 77, 46]⟩) (.int .i64 9)).run Ybaf.prog w = .ok (.int .u8 77) w := by kernel_rfl
theorem run_tab10 (w : World) : (Instr.index 9 (.string ⟨#[46, 97, 90, 48, 57, 46, 95, 45, 113, 77, 46]⟩) (.int .i64 10)).run Ybaf.prog w = .ok (.int .u8 46) w := by kernel_rfl
/-- 'table[int(z) % len(table)]'. -/
theorem run_tab (z : Int) (w : World) : (Instr.index 9 (.string ⟨#[46, 97, 90, 48, 57, 46, 95, 45, 113, 77, 46]⟩) (.int .i64 (z % 11))).run Ybaf.prog w = .ok (.int .u8 (pick z).toNat) w := by
  have h11 : z % 11 = 0 ∨ z % 11 = 1 ∨ z % 11 = 2 ∨ z % 11 = 3 ∨ z % 11 = 4 ∨ z % 11 = 5 ∨ z % 11 = 6 ∨ z % 11 = 7 ∨ z % 11 = 8 ∨ z % 11 = 9 ∨ z % 11 = 10 := by omega
  unfold pick
  generalize z % 11 = m at h11
  rcases h11 with rfl | rfl | rfl | rfl | rfl | rfl | rfl | rfl | rfl | rfl | rfl
  · exact run_tab0 w
  · exact run_tab1 w
  · exact run_tab2 w
  · exact run_tab3 w
  · exact run_tab4 w
  · exact run_tab5 w
  · exact run_tab6 w
  · exact run_tab7 w
  · exact run_tab8 w
  · exact run_tab9 w
  · exact run_tab10 w

theorem pick_ok (z : Int) : okB (pick z) = true := by
  have h11 : z % 11 = 0 ∨ z % 11 = 1 ∨ z % 11 = 2 ∨ z % 11 = 3 ∨ z % 11 = 4 ∨ z % 11 = 5 ∨ z % 11 = 6 ∨ z % 11 = 7 ∨ z % 11 = 8 ∨ z % 11 = 9 ∨ z % 11 = 10 := by omega
  unfold pick
  rcases h11 with h11 | h11 | h11 | h11 | h11 | h11 | h11 | h11 | h11 | h11 | h11 <;> (rw [h11]; decide)

theorem row_one (wr : World) (v : Value) : ∀ j u, [v][j]? = some u → (wr.alloc (.cells #[v] 5)).cell? ((⟨wr.heap.size, 0, none⟩ : Addr).add j) = some u := by
  intro j u hj
  match j, hj with
  | 0, hj => simp at hj; subst hj; simp [Addr.add]

def builtTo (zs : List Int) (k : Nat) : List UInt8 := (zs.take k).map pick

theorem builtTo_succ (zs : List Int) (k : Nat) (h : k < zs.length) : cells8 (builtTo zs (k + 1)) = cells8 (builtTo zs k) ++ [.int .u8 (pick (zs.getD k 0)).toNat] := by
  unfold builtTo cells8
  rw [List.take_succ_eq_append_getElem h]
  simp only [List.map_append, List.map_cons, List.map_nil, List.getD_eq_getElem?_getD, List.getElem?_eq_getElem h, Option.getD_some]

theorem builtTo_len (zs : List Int) (k : Nat) (h : k ≤ zs.length) : (builtTo zs k).length = k := by
  unfold builtTo
  simp
  omega

def BuiltRel (w : World) (n : Nat) (zs : List Int) (k : Nat) (wr : World) : Prop :=
  wr.ownsRow w.heap.size 5 1 (.slice (some ⟨w.heap.size, 0, none⟩) k n) k (cells8 (builtTo zs k)) ∧ Below w.heap.size w wr

theorem sent_later {w w' : World} {a : Addr} {s0 : ByteArray} (h : Sent w a s0) (hb : Below w.heap.size w w') : Sent w' a s0 :=
  ⟨(hb.cell (World.block_lt_of_cell? w _ h.v0)).trans h.v0, (hb.cell (World.block_lt_of_cell? w _ h.t0)).trans h.t0⟩

theorem head_cases {s : ByteArray} {b0 : Bool} (hb0 : headB s = b0) : (b0 = true ∧ 1 ≤ s.size ∧ s.size ≤ 63 ∧ (s.toList == [46]) = false ∧ (s.toList == [46, 46]) = false) ∨ (b0 = false ∧ ¬ 1 ≤ s.size) ∨ (b0 = false ∧ 1 ≤ s.size ∧ ¬ s.size ≤ 63) ∨
    (b0 = false ∧ 1 ≤ s.size ∧ s.size ≤ 63 ∧ (s.toList == [46]) = true) ∨ (b0 = false ∧ 1 ≤ s.size ∧ s.size ≤ 63 ∧ (s.toList == [46]) = false ∧ (s.toList == [46, 46]) = true) := by
  subst hb0
  by_cases h1 : 1 ≤ s.size
  · by_cases h2 : s.size ≤ 63
    · cases h3 : (s.toList == [46])
      · cases h4 : (s.toList == [46, 46])
        · exact .inl ⟨by simp [headB, h1, h2, h3, h4], h1, h2, rfl, rfl⟩
        · exact .inr (.inr (.inr (.inr ⟨by simp [headB, h4], h1, h2, rfl, rfl⟩)))
      · exact .inr (.inr (.inr (.inl ⟨by simp [headB, h3], h1, h2, rfl⟩)))
    · exact .inr (.inr (.inl ⟨by simp [headB, h2], h1, h2⟩))
  · exact .inr (.inl ⟨by simp [headB, h1], h1⟩)

set_option maxRecDepth 100000 in
set_option maxHeartbeats 1600000 in
theorem built_any (F : Interp) (a : Addr) (s0 : ByteArray) (ao : Option Addr) (n cap : Nat) (zs : List Int) (w : World) (hF : F.answers w.tape) (hS : Sent w a s0) (hn : n ≤ 1024) (hv : ViewI w ao n zs) (hz : ∀ z ∈ zs, 0 ≤ z ∧ z ≤ 255) :
    Calls Ybaf.prog 4 #[.slice ao n cap] w fun e w' => e = .returned (.bool true) ∧ Below w.heap.size w w' := by
  obtain rfl := hv.1
  have HV := hide hv
  have HZ := hide hz
  have HF := hide hF
  have HS := hide hS
  clear hv hz hF hS
  have d1 : decide ((1024 : Int) < (zs.length : Int)) = false := by simp; omega
  obtain ⟨i5, hi5, hz50, hz51, hz52⟩ := info_parts info5
  go_enter Ybaf.func4, Ybaf.ntmps4
  go_wp2_with (at_make; refine wpList_make_own _ rfl _ _ 25 rfl w.heap.size 5 i5 (.int .u8 0) 1 Ybaf.underlying25 hi5 hz50 hz51 .i64 .i64 zs.length zs.length rfl rfl rfl ?c1 ?c2 ?c3 ?_)
  case c1 => rw [hz52]; omega
  case c2 => unfold maxLen; omega
  case c3 => exact Nat.le_refl _
  intro w1 hown hgr
  have HR := hide (show BuiltRel w zs.length zs 0 w1 from ⟨hown, Below.grown (Below.refl w.heap.size w) hgr (Nat.le_refl _) (fun k hk => by cases hk)⟩)
  clear hown hgr
  go_wp2_with fail
  go_loopw [3, 4] (fun b i wr => ∃ k : Nat, k ≤ zs.length ∧ i = .int .i64 k ∧ b = .slice (some ⟨w.heap.size, 0, none⟩) k zs.length ∧ Hid (BuiltRel w zs.length zs k wr)) (fun _ i _ => zs.length - (intOf i).toNat)
  case atStart => exact ⟨0, Nat.zero_le _, rfl, rfl, HR⟩
  case round =>
    obtain ⟨k, hk, rfl, rfl, hrel⟩ := hrel
    clear HR
    by_cases hlt : k < zs.length
    · obtain ⟨b, o, rfl, hbw, hcs⟩ := HV.out.2 (by omega)
      obtain ⟨z, hze⟩ : ∃ z, z = zs.getD k 0 := ⟨_, rfl⟩
      have hck : wr.cell? ⟨b, o + k, none⟩ = some (.int .u8 z) := by rw [hze]; exact (hrel.out.2.cell (by exact hbw)).trans (hcs k hlt)
      have hzk := HZ.out z (by rw [hze, List.getD_eq_getElem?_getD, List.getElem?_eq_getElem hlt]; simp)
      obtain ⟨hz0, hz1⟩ := hzk
      have HZE := hide hze
      clear hcs hze
      have hidx := run_tab z
      have hone : Hid (∀ u ∈ [Value.int .u8 (pick z).toNat], u.oneCell' = true) := by intro u hu; simp at hu; subst hu; rfl
      go_wp2_with (first | (at_builtin; refine wpList_append_fits _ rfl _ _ 25 rfl w.heap.size 5 i5 1 Ybaf.underlying25 hi5 hz51 w.heap.size k zs.length _ rfl (hrel.out.1.alloc _) ⟨wr.heap.size, 0, none⟩ 1 1 [.int .u8 (pick z).toNat] rfl rfl (row_one wr _) hone.out (by omega) ?_))
      intro w2 hown2 hgr2
      have HR2 := hide (show BuiltRel w zs.length zs (k + 1) w2 from ⟨by rw [builtTo_succ zs k hlt, ← HZE.out]; exact hown2, Below.grown (hrel.out.2.alloc (hrel.out.2.size) _) hgr2 (by have := hrel.out.2.size; simp; omega) (fun j hj => by cases hj; exact Nat.le_refl _)⟩)
      clear hown2 hgr2
      go_wp2_with fail
      go_roundw
      case rel => exact ⟨k + 1, by omega, by go_num, rfl, HR2⟩
      case measure => simp [intOf]; omega
    · obtain rfl : zs.length = k := by omega
      clear hlt hk hi5 hz50 hz51 hz52
      obtain ⟨s, hs⟩ : ∃ s : ByteArray, s = ⟨(builtTo zs zs.length).toArray⟩ := ⟨_, rfl⟩
      have hlen := builtTo_len zs zs.length (Nat.le_refl _)
      have hcv : ∀ q, (convert 25 9 (.slice (some ⟨w.heap.size, 0, none⟩) zs.length q)).run Ybaf.prog wr = .ok (.string s) wr := fun q => by
        have := run_convert_bytes_back (P := Ybaf.prog) wr 25 9 5 ⟨w.heap.size, 0, none⟩ q (builtTo zs zs.length) Ybaf.underlying25 Ybaf.underlying5 Ybaf.underlying9 (fun j hj => (World.ownsRow.cells hrel.out.1 rfl j _ (by simp [cells8, hj])))
        rw [hlen, ← hs] at this
        exact this
      have hsz : s.size = zs.length := by rw [hs]; simp [ByteArray.size, hlen]
      have hall : allB s s.size = true := by
        unfold allB
        rw [List.all_eq_true]
        intro x hx
        have hx' := List.mem_of_mem_take hx
        rw [hs] at hx'
        simp only [builtTo] at hx'
        obtain ⟨z, _, rfl⟩ := List.mem_map.1 (by simpa using hx')
        exact pick_ok z
      have hnm : nameB s = headB s := by simp [nameB, hall]
      have HC := hide (check_any F a s0 s wr (by rw [hrel.out.2.tape]; exact HF.out) (sent_later HS.out hrel.out.2) (by omega))
      rw [hnm] at HC
      have hs1 : s.size ≤ 1024 := by omega
      have HB := hide hrel.out.2
      clear hs hlen hsz hall hnm hrel
      obtain ⟨b0, hb0⟩ : ∃ b0, headB s = b0 := ⟨_, rfl⟩
      rw [hb0] at HC
      rcases head_cases hb0 with ⟨rfl, h1, h2, h3, h4⟩ | ⟨rfl, h1⟩ | ⟨rfl, h1, h2⟩ | ⟨rfl, h1, h2, h3⟩ | ⟨rfl, h1, h2, h3, h4⟩
      all_goals
        clear hb0
        go_wp2_with (go_at_call 6; refine (HC.out).mono ?_; rintro e w' ⟨rfl, hb'⟩)
        go_ret
        exact ⟨rfl, HB.out.trans (hb'.mono HB.out.size)⟩

set_option maxHeartbeats 400000 in
theorem built_big (ao : Option Addr) (n cap : Nat) (w : World) (hn : ¬ n ≤ 1024) : Calls Ybaf.prog 4 #[.slice ao n cap] w fun e w' => e = .returned (.bool true) ∧ Below w.heap.size w w' := by
  have h : (1024 : Int) < (n : Int) := by omega
  go_enter Ybaf.func4, Ybaf.ntmps4
  go_wp2
  go_ret
  exact ⟨rfl, Below.refl _ _⟩

end Go.Proofs.YbulkczhuFmt
