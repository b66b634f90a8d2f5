/-
  LawS5038ABuilt: the told and tied card.
-/
import Derived.Test.YbulkczhuFmtLawB
import Derived.Test.YbulkczhuFmtKit
import Derived.Test.YbulkczhuFmtTie
import Derived.Test.YbulkczhuFmtCards
import Derived.SevenTiedAt
namespace Go.Proofs.YbulkczhuFmt
open Go.ChangeShapes Go.WideShapes Go.ChangeAt Go.RowKit Go.Extern.Stop Go.Stop Go.Extern

/-- A slice of integers that came in. -/
theorem view_ints {H : Type} {enc : TypeId × Value → H} {W : World} {t e : TypeId} {a : Option Addr} {len cap : Nat} {d : DataW H} {p : List MemPlace} {b : Bool} {n : Nat}
    (ht : Ybaf.prog.underlying t = some (.slice e)) (he : Ybaf.prog.underlying e = some (.int .u8)) (hc : Ybaf.prog.cellsOf e = 1)
    (h : DataW.Trod enc Ybaf.prog W n (fun _ => true) b t (.slice a len cap) d p) :
    ∃ zs, ViewI W a len zs ∧ (∀ z ∈ zs, (Lit.int .u8 z).wf = true) := by
  obtain ⟨fuel, hf⟩ := h
  rcases open_ints ht he hc hf with ⟨hcs, _⟩ | ⟨x, l, c, zs, hcs, _, hl, hm, hz, _, hcell, hwz⟩
  · simp [Value.cells] at hcs
    obtain ⟨rfl, rfl, rfl⟩ := hcs
    exact ⟨[], ⟨rfl, fun h => by omega⟩, fun z h => by cases h⟩
  · simp [Value.cells] at hcs
    obtain ⟨rfl, rfl, rfl⟩ := hcs
    have hz' : zs.length = cap := by simpa using hz
    refine ⟨zs.take len, ⟨by rw [List.length_take]; omega, fun h0 => ?_⟩, fun z hz => hwz z (List.mem_of_mem_take hz)⟩
    obtain ⟨bb, off, spot⟩ := x
    have hc0 := hcell 0 (by omega)
    have hspot : spot = none := by simpa [Addr.add] using World.cell?_spot hc0
    subst hspot
    refine ⟨bb, off, rfl, ?_, fun i hi => ?_⟩
    · have := World.block_lt_of_cell? W _ hc0
      simpa [Addr.add] using this
    · have := hcell i (by omega)
      rw [show (⟨bb, off, none⟩ : Addr).add i = ⟨bb, off + i, none⟩ by simp [Addr.add]] at this
      have e : (zs.take len).getD i 0 = zs.getD i 0 := by
        simp only [List.getD_eq_getElem?_getD]
        rw [List.getElem?_take, if_pos hi]
      rw [this, e]

set_option maxRecDepth 100000 in
theorem built_lifted (os : Os) (started : os.Started) (H : Type) (enc : TypeId × Value → H) :
    ReturnsInTold none {} Ybaf.checked os 4 .any Input.okWide ((OpenSpec.ofChange Rows.lawS5038ABuiltSpec).preRow enc Ybaf.prog Ybaf.f4 [] false laid1) (fun F => ((OpenSpec.ofChange Rows.lawS5038ABuiltSpec).at F).post enc Ybaf.prog Ybaf.f4 false true false false) (aloneAtReturn Ybaf.prog) nothingAlways := by
  refine returnsInTold_of_row (C := Ybaf.checked) (s := OpenSpec.ofChange Rows.lawS5038ABuiltSpec) (by kernel_rfl) own started (by kernel_rfl) Ybaf.func4
    (OpenSpec.witness_stopped_atRef (enc := enc) (C := Ybaf.checked) false (World.doorLaid Ybaf.prog 28 os) #[.slice none 0 0] rfl (by kernel_rfl) (by kernel_rfl) (by kernel_rfl)
      (OpenSpec.preRow_of_B rfl 8 (by kernel_rfl) (by kernel_rfl) (door_met os _))) ?_
  intro F W base args ds gs before _ hF hval0 hW _ _ _ hL _
  have hval : ∀ (j : Nat) t v, Ybaf.f4.params[j]? = some t → args[j]? = some v → Value.okWide Ybaf.prog W .any base t v := hval0
  have hW' := hW
  obtain ⟨p, q, hA0, hV0, rfl, hfz, hnd⟩ := hW
  have hA : DataW.TrodAll enc Ybaf.prog W 0 (fun _ => true) true Ybaf.f4.params.toList args.toList ds p := hA0
  have hV : DataW.TrodVars enc Ybaf.prog W (fun _ => true) [nVar] gs q := hV0
  rw [Ybaf.params4] at hA hval
  obtain ⟨v0, d0, rfl, rfl, h0⟩ := trodAll_one hA
  obtain ⟨a, s0, hx, hS⟩ := of_laid hL
  obtain ⟨rfl, rfl⟩ := hV.unique (vars_read1 enc gVar tVar Ybaf.underlying28 hx trivial _)
  obtain ⟨ao, n, cap, rfl⟩ := okWide_slice Ybaf.underlying25 (hval 0 25 v0 rfl rfl)
  have k0 := h0
  have lt0 : ∀ x ∈ p, x.block < W.heap.size := by obtain ⟨m, hm⟩ := k0; exact DataW.trod_lt m _ _ _ hm
  obtain ⟨zs, hz1, hz2⟩ := view_ints Ybaf.underlying25 Ybaf.underlying5 (by kernel_rfl) h0
  clear hA0 hV0 hval0
  have hw : Calls Ybaf.prog 4 #[.slice ao n cap] W fun e W' => e = .returned (.bool true) ∧ Below W.heap.size W W' := by
    by_cases hsz : n ≤ 1024
    · exact built_any F.told a s0 ao n cap zs W hF hS hsz hz1 (fun z hz => bounds_u8 (hz2 z hz))
    · exact built_big ao n cap W hsz
  refine hw.mono fun e W' ⟨he, bel⟩ => ?_
  subst he
  have l0 := World.block_lt_of_cell? W ⟨0, 0, none⟩ hS.v0
  have r0 := var?_below bel gVar l0 hx
  exact ⟨_, rfl, _, _, _, [], _, [.cell 0 0], hW', trodAll_mk1 (shut_bool Ybaf.underlying4 _), trodAll_mk1 (Below.trod laidOut (by kernel_rfl) (of_decide_eq_true (by kernel_rfl)) k0 bel lt0),
    vars_read1 enc gVar tVar Ybaf.underlying28 r0 trivial _, bel.frame _, fun h => by cases h⟩

theorem built_card : Rows.LawS5038ABuiltToldSaid :=
  Claim7.holds_of_told_tied_any_at .later 4 Ybaf.f4 "fmt.errorf" [] [] _ _ _ _ _ (by kernel_rfl) rfl rfl rfl laidOut (by kernel_rfl) rfl ⟨rfl, rfl, rfl, rfl, rfl, rfl, rfl⟩ rfl rfl (by kernel_rfl) (by kernel_rfl) Ybaf.func4 (by kernel_rfl)
    (of_decide_eq_true (by kernel_rfl)) (by unfold Func.isWrapper; first | (rw [if_pos (by decide +kernel)]; kernel_rfl) | (rw [if_neg (by decide +kernel)]; exact ⟨rfl, rfl⟩)) stops.symm rfl stopKnobs.symm (by kernel_rfl)
    (by kernel_rfl) (by kernel_rfl) (by kernel_rfl) (by kernel_rfl) (by kernel_rfl) (by kernel_rfl) (by kernel_rfl) (by kernel_rfl) (by kernel_rfl) rfl (by kernel_rfl) rfl rfl
    rfl rfl
    rfl (by kernel_rfl) (by kernel_rfl) (by kernel_rfl) (by decide) (by kernel_rfl) lawS5038ABuilt_row_tie
    (OpenClaim.moreEntering_of (by kernel_rfl) (by kernel_rfl) (by kernel_rfl) (by kernel_rfl) (by kernel_rfl) (by kernel_rfl) (by kernel_rfl) (by kernel_rfl) (by kernel_rfl) (by kernel_rfl))
    ⟨_, WideRow.started_initial, quiet _⟩
    (fun os started _ H enc _ => built_lifted os started H enc)

end Go.Proofs.YbulkczhuFmt
