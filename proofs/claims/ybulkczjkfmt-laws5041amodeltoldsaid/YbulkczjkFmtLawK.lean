/-
  What the walks of LawS5041AModel share.
-/
import Derived.Test.YbulkczjkFmtCrashK
import Derived.Test.YbulkczjkFmtBuildM
namespace Go.Proofs.YbulkczjkFmt
open Go.RowKit Go.Maps

theorem MsgsIn.below {w w' : World} {sa : Option Addr} {L : Nat} {ms : Nat → Msg} (h : MsgsIn w sa L ms) (hb : Below w.heap.size w w') : MsgsIn w' sa L ms := by
  refine ⟨fun h0 => ?_, h.lt⟩
  obtain ⟨b, o, e, hlt, hc⟩ := h.at_ h0
  exact ⟨b, o, e, Nat.lt_of_lt_of_le hlt hb.size, fun i hi j u hu => (hb.cell (p := ⟨b, o + i * 6 + j, none⟩) hlt).trans (hc i hi j u hu)⟩

theorem slice_of {w : World} {B L : Nat} {v : Value} {xs : List Value} (h : w.ownsRow B 39 9 v L xs) : ∃ va vc, v = .slice va L vc := by
  rcases h.2 with ⟨rfl, e⟩ | ⟨q, cap, cur, e, _⟩
  · exact ⟨none, 0, by rw [e]⟩
  · exact ⟨_, _, e⟩

theorem make_bools (w : World) (n : Nat) (hn : n ≤ 4) : ∃ ws, (Instr.makeSlice 35 (.int .i64 n) (.int .i64 n)).run Ybaf.prog w = .ok (.slice (some ⟨w.heap.size, 0, none⟩) n n) ws ∧ RowT ws 4 w.heap.size (List.replicate n (.bool false)) ∧ w.grownBy ws none := by
  obtain ⟨i4, hi4, hz0, hz1, hz2⟩ := info_parts Ybaf.info4
  obtain ⟨ws, hrs, hos, hgs⟩ := run_make_full (P := Ybaf.prog) w 0 35 4 i4 (.bool false) 1 Ybaf.underlying35 hi4 hz0 hz1 .i64 .i64 n (by rw [hz2]; omega) (by unfold maxLen; omega) (Nat.zero_le _)
  exact ⟨ws, hrs, row_made hos, hgs⟩

theorem owN_up (bs bcv sv : Int) : owN false bs bcv sv = bcv + sv := rfl
theorem owN_on {bs : Int} (bcv sv : Int) (h : 0 < bs) : owN true bs bcv sv = bcv + sv := by simp [owN, h]
theorem owN_off {bs : Int} (bcv sv : Int) (h : bs ≤ 0) : owN true bs bcv sv = bcv := by
  unfold owN
  rw [decide_eq_false (by omega)]
  rfl

/-- How things stand in the law's own loops. -/
structure St (n mm cm t L : Nat) (ms : Nat → Msg) (bs bc ow : Nat → Int) (ex sv : Int) (w w' : World) (sa : Option Addr) (lc g : Nat) (m : Nat → Nat) (ao : Option Addr) (mc : Nat) (va : Option Addr) (vc CA : Nat) : Prop where
  aft : AfterM w.heap.size n mm cm t L ms bs bc ow ex sv w w' lc g m ao mc va vc
  ca : RowT w' 4 CA ((crL cm n n).set t (.bool true))
  inn : MsgsIn w' sa L ms

theorem AfterM.but {B n mm cm t L : Nat} {ms : Nat → Msg} {bs bc ow : Nat → Int} {ex sv : Int} {w0 w3 w5 : World} {lc g : Nat} {m : Nat → Nat} {ao : Option Addr} {mc : Nat} {va : Option Addr} {vc CA : Nat} (h : AfterM B n mm cm t L ms bs bc ow ex sv w0 w3 lc g m ao mc va vc) (k : But [CA] w3 w5) (hCA : w3.heap.size ≤ CA) {w : World} (hw : Below w.heap.size w w3) :
    AfterM w.heap.size n mm cm t L ms bs bc ow ex sv w w5 lc g m ao mc va vc := by
  have nr : ∀ {t' : TypeId} {b : Nat} {xs : List Value}, RowT w3 t' b xs → b ∉ [CA] := by
    intro t' b xs hr
    have := hr.lt
    simp
    omega
  refine ⟨k.row h.row (nr h.row), fun h0 => ?_, k.row h.grp (nr h.grp), k.row h.crashed (nr h.crashed), k.row h.stopped (nr h.stopped), k.row h.last (nr h.last), hw.trans (k.below (B := w.heap.size) ?_ hw.size)⟩
  · obtain ⟨q, e, hr⟩ := h.msgs h0
    have := hr.lt
    exact ⟨q, e, k.rowM hr (by simp; omega)⟩
  · intro b hb
    have := hw.size
    simp at hb
    omega

theorem St.of {B n mm cm t L : Nat} {ms : Nat → Msg} {bs bc ow : Nat → Int} {ex sv : Int} {w0 w3 w5 : World} {sa : Option Addr} {lc g : Nat} {m : Nat → Nat} {ao : Option Addr} {mc : Nat} {va : Option Addr} {vc CA : Nat} (h : AfterM B n mm cm t L ms bs bc ow ex sv w0 w3 lc g m ao mc va vc) (k : But [CA] w3 w5) (hCA : w3.heap.size = CA) {w : World} (hw : Below w.heap.size w w3) (hin : MsgsIn w sa L ms)
    (hr : RowT w5 4 CA ((crL cm n n).set t (.bool true))) : St n mm cm t L ms bs bc ow ex sv w w5 sa lc g m ao mc va vc CA :=
  have ha := h.but k (Nat.le_of_eq hCA) hw
  ⟨ha, hr, hin.below ha.below⟩

theorem St.kept {n mm cm t L : Nat} {ms : Nat → Msg} {bs bc ow : Nat → Int} {ex sv : Int} {w w5 w6 : World} {sa : Option Addr} {lc g : Nat} {m : Nat → Nat} {ao : Option Addr} {mc : Nat} {va : Option Addr} {vc CA : Nat} (h : St n mm cm t L ms bs bc ow ex sv w w5 sa lc g m ao mc va vc CA) (hg : w5.grownBy w6 none) : St n mm cm t L ms bs bc ow ex sv w w6 sa lc g m ao mc va vc CA := by
  have hb : But [] w5 w6 := (But.refl _ _).after hg (fun _ e => by cases e)
  have h1 := h.aft.but (CA := w5.heap.size) (hb.more (by simp)) (Nat.le_refl _) h.aft.below
  exact ⟨h1, h.ca.kept hg (by simp), h.inn.below (hb.below (by simp) (Nat.le_refl _))⟩

theorem St.drew {n mm cm t L : Nat} {ms : Nat → Msg} {bs bc ow : Nat → Int} {ex sv : Int} {w w5 : World} {sa : Option Addr} {lc g : Nat} {m : Nat → Nat} {ao : Option Addr} {mc : Nat} {va : Option Addr} {vc CA : Nat} (h : St n mm cm t L ms bs bc ow ex sv w w5 sa lc g m ao mc va vc CA) : St n mm cm t L ms bs bc ow ex sv w w5.drew sa lc g m ao mc va vc CA :=
  h.kept ⟨rfl, rfl, rfl, Nat.le_refl _, fun _ _ _ => rfl⟩

end Go.Proofs.YbulkczjkFmt
