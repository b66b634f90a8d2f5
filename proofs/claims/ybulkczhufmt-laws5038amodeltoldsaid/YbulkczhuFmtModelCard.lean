/-
  LawS5038AModel: the told and tied card.
-/
import Derived.Test.YbulkczhuFmtLawM
import Derived.Test.YbulkczhuFmtKit
import Derived.Test.YbulkczhuFmtTie
import Derived.Test.YbulkczhuFmtCards
import Derived.SevenTiedAt
namespace Go.Proofs.YbulkczhuFmt
open Go.ChangeShapes Go.WideShapes Go.ChangeAt Go.RowKit Go.Extern.Stop Go.Stop Go.Extern
open Go.ChangeMaps (open_string shut_string)

set_option maxRecDepth 100000 in
theorem model_lifted (os : Os) (started : os.Started) (H : Type) (enc : TypeId × Value → H) :
    ReturnsInTold none {} Ybaf.checked os 3 .any Input.okWide ((OpenSpec.ofChange Rows.lawS5038AModelSpec).preRow enc Ybaf.prog Ybaf.f3 [] false laid1) (fun F => ((OpenSpec.ofChange Rows.lawS5038AModelSpec).at F).post enc Ybaf.prog Ybaf.f3 false true false false) (aloneAtReturn Ybaf.prog) nothingAlways := by
  refine returnsInTold_of_row (C := Ybaf.checked) (s := OpenSpec.ofChange Rows.lawS5038AModelSpec) (by kernel_rfl) own started (by kernel_rfl) Ybaf.func3
    (OpenSpec.witness_stopped_atRef (enc := enc) (C := Ybaf.checked) false (World.doorLaid Ybaf.prog 28 os) #[.string ⟨#[]⟩] rfl (by kernel_rfl) (by kernel_rfl) (by kernel_rfl)
      (OpenSpec.preRow_of_B rfl 8 (by kernel_rfl) (by kernel_rfl) (door_met os _))) ?_
  intro F W base args ds gs before _ hF hval0 hW _ _ _ hL _
  have hval : ∀ (j : Nat) t v, Ybaf.f3.params[j]? = some t → args[j]? = some v → Value.okWide Ybaf.prog W .any base t v := hval0
  have hW' := hW
  obtain ⟨p, q, hA0, hV0, rfl, hfz, hnd⟩ := hW
  have hA : DataW.TrodAll enc Ybaf.prog W 0 (fun _ => true) true Ybaf.f3.params.toList args.toList ds p := hA0
  have hV : DataW.TrodVars enc Ybaf.prog W (fun _ => true) [nVar] gs q := hV0
  rw [Ybaf.params3] at hA hval
  obtain ⟨v0, d0, rfl, rfl, h0⟩ := trodAll_one hA
  obtain ⟨a, s0, hx, hS⟩ := of_laid hL
  obtain ⟨rfl, rfl⟩ := hV.unique (vars_read1 enc gVar tVar Ybaf.underlying28 hx trivial _)
  obtain ⟨s, rfl, rfl, rfl, hs⟩ := open_string Ybaf.underlying9 (hval 0 9 v0 rfl rfl) h0
  clear hA0 hV0 hval0
  have hw : Calls Ybaf.prog 3 #[.string s] W fun e W' => e = .returned (.bool true) ∧ Below W.heap.size W W' := by
    by_cases hsz : s.size ≤ 1024
    · exact model_any F.told a s0 s W hF hS hsz
    · exact model_big s W hs hsz
  refine hw.mono fun e W' ⟨he, bel⟩ => ?_
  subst he
  have l0 := World.block_lt_of_cell? W ⟨0, 0, none⟩ hS.v0
  have r0 := var?_below bel gVar l0 hx
  exact ⟨_, rfl, _, _, _, [], [], [.cell 0 0], hW', trodAll_mk1 (shut_bool Ybaf.underlying4 _), trodAll_mk1 (shut_string Ybaf.underlying9 hs),
    vars_read1 enc gVar tVar Ybaf.underlying28 r0 trivial _, bel.frame _, fun h => by cases h⟩

theorem model_card : Rows.LawS5038AModelToldSaid :=
  Claim7.holds_of_told_tied_any_at .later 3 Ybaf.f3 "fmt.errorf" [] [] _ _ _ _ _ (by kernel_rfl) rfl rfl rfl laidOut (by kernel_rfl) rfl ⟨rfl, rfl, rfl, rfl, rfl, rfl, rfl⟩ rfl rfl (by kernel_rfl) (by kernel_rfl) Ybaf.func3 (by kernel_rfl)
    (of_decide_eq_true (by kernel_rfl)) (by unfold Func.isWrapper; first | (rw [if_pos (by decide +kernel)]; kernel_rfl) | (rw [if_neg (by decide +kernel)]; exact ⟨rfl, rfl⟩)) stops.symm rfl stopKnobs.symm (by kernel_rfl)
    (by kernel_rfl) (by kernel_rfl) (by kernel_rfl) (by kernel_rfl) (by kernel_rfl) (by kernel_rfl) (by kernel_rfl) (by kernel_rfl) (by kernel_rfl) rfl (by kernel_rfl) rfl rfl
    rfl rfl
    rfl (by kernel_rfl) (by kernel_rfl) (by kernel_rfl) (by decide) (by kernel_rfl) lawS5038AModel_row_tie
    (OpenClaim.moreEntering_of (by kernel_rfl) (by kernel_rfl) (by kernel_rfl) (by kernel_rfl) (by kernel_rfl) (by kernel_rfl) (by kernel_rfl) (by kernel_rfl) (by kernel_rfl) (by kernel_rfl))
    ⟨_, WideRow.started_initial, quiet _⟩
    (fun os started _ H enc _ => model_lifted os started H enc)

end Go.Proofs.YbulkczhuFmt
