/-
  LawS5041BRoundTrip: the told card.
-/
import Derived.Test.YbulkczjkFmtLawR
import Derived.Test.YbulkczjkFmtCards
import Derived.ProofKit
import Derived.OpenShut
import Derived.ChangeOld
import Derived.Below
import Derived.Deep.SlicePairs
import Derived.Stop.Joined
import Derived.Stop.JoinedTold
import Derived.SevenToldRow
namespace Go.Proofs.YbulkczjkFmt
open Go.ChangeShapes Go.WideShapes Go.ChangeAt Go.RowKit Go.Extern.Stop Go.Stop Go.Extern

theorem own : ownKnob Ybaf.prog.godebug = none := by kernel_rfl
theorem laidOut : laidOutB Ybaf.pinned.checked.prog = true := by kernel_rfl
theorem stops : Ybaf.pinned.checked.prog.stops = ["fmt.errorf"] := by kernel_rfl
theorem stopKnobs : Ybaf.pinned.checked.prog.stopKnobs = [] := by kernel_rfl
theorem quiet (os : Os) : Stop.quiet Ybaf.pinned.checked.prog os := by
  intro k hk
  rw [stopKnobs] at hk
  cases hk

/-- A slice of bytes that came in. -/
theorem view_bytes {H : Type} {enc : TypeId × Value → H} {W : World} {t e : TypeId} {a : Option Addr} {len cap : Nat} {d : DataW H} {p : List MemPlace} {b : Bool} {n : Nat}
    (ht : Ybaf.prog.underlying t = some (.slice e)) (he : Ybaf.prog.underlying e = some (.int .u8)) (hc : Ybaf.prog.cellsOf e = 1)
    (h : DataW.Trod enc Ybaf.prog W n (fun _ => true) b t (.slice a len cap) d p) : ∃ L, ViewB W a len L ∧ (a = none → cap = 0) := by
  obtain ⟨fuel, hf⟩ := h
  rcases open_ints ht he hc hf with ⟨hcs, _⟩ | ⟨x, l, c, zs, hcs, _, hl, hm, hz, _, hcell, hwz⟩
  · simp [Value.cells] at hcs
    obtain ⟨rfl, rfl, rfl⟩ := hcs
    exact ⟨[], ⟨rfl, fun h => by omega⟩, fun _ => rfl⟩
  · simp [Value.cells] at hcs
    obtain ⟨rfl, rfl, rfl⟩ := hcs
    have hz' : zs.length = cap := by simpa using hz
    refine ⟨(zs.take len).map fun z => z.toNat.toUInt8, ⟨by rw [List.length_map, List.length_take]; omega, fun h0 => ?_⟩, fun h => by cases h⟩
    obtain ⟨bb, off, spot⟩ := x
    have hc0 := hcell 0 (by omega)
    have hspot : spot = none := by simpa [Addr.add] using World.cell?_spot hc0
    subst hspot
    refine ⟨bb, off, rfl, ?_, fun i hi => ?_⟩
    · have := World.block_lt_of_cell? W _ hc0
      simpa [Addr.add] using this
    · have hi' : i < len := by rw [List.length_map, List.length_take] at hi; omega
      have hiz : i < zs.length := by omega
      have := hcell i (by omega)
      rw [show (⟨bb, off, none⟩ : Addr).add i = ⟨bb, off + i, none⟩ by simp [Addr.add]] at this
      have hr := bounds_u8 (hwz zs[i] (List.getElem_mem _))
      have hd : zs.getD i 0 = zs[i] := by simp [hiz]
      have h1 : (zs[i].toNat.toUInt8).toNat = zs[i].toNat := by simp; omega
      have h2 : ((zs[i].toNat : Nat) : Int) = zs[i] := by omega
      rw [this, hd, List.getElem_map, List.getElem_take, h1, h2]

/-- A slice of pairs that came in. -/
theorem view_pairs {H : Type} {enc : TypeId × Value → H} {W : World} {a : Option Addr} {len cap : Nat} {d : DataW H} {p : List MemPlace} {b : Bool} {n : Nat}
    (h : DataW.Trod enc Ybaf.prog W n (fun _ => true) b 50 (.slice a len cap) d p) : ∃ al ca, Pairs W a len al ca := by
  obtain ⟨fuel, hf⟩ := h
  rcases Go.Deep.open_slice_pairs Ybaf.underlying50 Ybaf.underlying55 (by kernel_rfl) rfl rfl (by kernel_rfl) (by kernel_rfl) hf with ⟨hcs, _⟩ | ⟨x, l, c, m, k, V0, V1, D0, D1, P0, P1, hcs, _, hl, hm, hmm, _, hcell⟩
  · simp [Value.cells] at hcs
    obtain ⟨rfl, rfl, rfl⟩ := hcs
    exact ⟨fun _ => 0, fun _ => 0, fun h => by omega, fun i hi => by omega⟩
  · simp [Value.cells] at hcs
    obtain ⟨rfl, rfl, rfl⟩ := hcs
    have hm' : m = cap := by simpa using hmm
    have hint : ∀ i, i < len → ∃ x y : Nat, V0 i = .int .u64 x ∧ V1 i = .int .u64 y ∧ x < 18446744073709551616 ∧ y < 18446744073709551616 := by
      intro i hi
      obtain ⟨_, _, h0, h1⟩ := hcell i (by omega)
      obtain ⟨z0, e0, _, w0⟩ := DataW.trod_int Ybaf.underlying53 h0
      obtain ⟨z1, e1, _, w1⟩ := DataW.trod_int Ybaf.underlying53 h1
      have b0 := bounds_u64 w0
      have b1 := bounds_u64 w1
      refine ⟨z0.toNat, z1.toNat, ?_, ?_, by omega, by omega⟩
      · simp at e0; rw [e0]; congr 1; omega
      · simp at e1; rw [e1]; congr 1; omega
    refine ⟨fun i => if h : i < len then (hint i h).choose else 0, fun i => if h : i < len then (hint i h).choose_spec.choose else 0, fun h0 => ?_, fun i hi => ?_⟩
    · obtain ⟨bb, off, spot⟩ := x
      have hc0 := (hcell 0 (by omega)).1
      have hspot : spot = none := by simpa [Addr.add] using World.cell?_spot hc0
      subst hspot
      refine ⟨bb, off, rfl, ?_, fun i hi => ?_⟩
      · have := World.block_lt_of_cell? W _ hc0
        simpa [Addr.add] using this
      · obtain ⟨g0, g1, _, _⟩ := hcell i (by omega)
        have hs := (hint i hi).choose_spec.choose_spec
        have hadd : ∀ j, (⟨bb, off, none⟩ : Addr).add j = ⟨bb, off + j, none⟩ := fun j => by simp [Addr.add]
        rw [hadd] at g0 g1
        rw [← Nat.add_assoc] at g1
        simp only [hi, dif_pos]
        exact ⟨g0.trans (congrArg some hs.1), g1.trans (congrArg some hs.2.1)⟩
    · have hs := (hint i hi).choose_spec.choose_spec
      simp only [hi, dif_pos]
      exact ⟨hs.2.2.1, hs.2.2.2⟩

theorem rt_walk (ao sa : Option Addr) (n cap m sc : Nat) (L : List UInt8) (al ca : Nat → Nat) (w : World) (hv : ViewB w ao n L) (hc0 : ao = none → cap = 0) (hp : Pairs w sa m al ca) :
    Calls Ybaf.prog 5 #[.slice sa m sc, .slice ao n cap] w fun e w' => e = .returned (.bool true) ∧ Below w.heap.size w w' := by
  by_cases h : 1024 < n ∨ 1024 < m
  · exact rt_big ao sa n cap m sc w h
  · obtain rfl := hv.1
    exact rt_any ao sa cap m sc L al ca w (by omega) (by omega) hv hc0 hp

set_option maxRecDepth 100000 in
theorem rt_lifted (os : Os) (started : os.Started) (H : Type) (enc : TypeId × Value → H) :
    ReturnsInTold none {} Ybaf.checked os 5 .any Input.okWide ((OpenSpec.ofChange Rows.lawS5041BRoundTripSpec).preRow enc Ybaf.prog Ybaf.f5 [] false []) (fun F => ((OpenSpec.ofChange Rows.lawS5041BRoundTripSpec).at F).post enc Ybaf.prog Ybaf.f5 false true false false) (aloneAtReturn Ybaf.prog) nothingAlways := by
  refine returnsInTold_of_row (C := Ybaf.checked) (s := OpenSpec.ofChange Rows.lawS5041BRoundTripSpec) (by kernel_rfl) own started (by kernel_rfl) Ybaf.func5
    (OpenSpec.witness_stopped (enc := enc) (C := Ybaf.checked) false ⟨#[], #[.slice none 0 0, .slice none 0 0], []⟩ 8 (by kernel_rfl) (by kernel_rfl) (by kernel_rfl) (by kernel_rfl)) ?_
  intro F W base args ds gs before _ hF hval0 hW _ _ _ _ _
  have hval : ∀ (j : Nat) t v, Ybaf.f5.params[j]? = some t → args[j]? = some v → Value.okWide Ybaf.prog W .any base t v := hval0
  have hW' := hW
  obtain ⟨p, q, hA0, hV, rfl, hfz, hnd⟩ := hW
  have hA : DataW.TrodAll enc Ybaf.prog W 0 (fun _ => true) true Ybaf.f5.params.toList args.toList ds p := hA0
  rw [Ybaf.params5] at hA hval
  obtain ⟨v0, v1, d0, d1, p0, p1, rfl, rfl, rfl, h0, h1⟩ := trodAll_two hA
  obtain ⟨rfl, rfl⟩ := trodVars_none hV
  obtain ⟨sa, m, sc, rfl⟩ := okWide_slice Ybaf.underlying50 (hval 0 50 v0 rfl rfl)
  obtain ⟨ao, n, cap, rfl⟩ := okWide_slice Ybaf.underlying51 (hval 1 51 v1 rfl rfl)
  have lt0 : ∀ x ∈ p0, x.block < W.heap.size := by obtain ⟨m, hm⟩ := h0; exact DataW.trod_lt m _ _ _ hm
  have lt1 : ∀ x ∈ p1, x.block < W.heap.size := by obtain ⟨m, hm⟩ := h1; exact DataW.trod_lt m _ _ _ hm
  obtain ⟨al, ca, hP⟩ := view_pairs h0
  obtain ⟨L, hL, hc0⟩ := view_bytes Ybaf.underlying51 Ybaf.underlying5 (by kernel_rfl) h1
  clear hA0 hval0
  refine (rt_walk ao sa n cap m sc L al ca W hL hc0 hP).mono fun e W' ⟨he, bel⟩ => ?_
  subst he
  exact ⟨_, rfl, _, _, _, [], _, [], hW', trodAll_mk1 (shut_bool Ybaf.underlying4 _), trodAll_mk2 (Below.trod laidOut (by kernel_rfl) (of_decide_eq_true (by kernel_rfl)) h0 bel lt0) (Below.trod laidOut (by kernel_rfl) (of_decide_eq_true (by kernel_rfl)) h1 bel lt1), rfl, bel.frame _, fun h => by cases h⟩

theorem roundTrip_card : Rows.LawS5041BRoundTripToldSaid :=
  Claim7.holds_of_told_any 5 Ybaf.f5 "fmt.errorf" [] [] _ _ _ (by kernel_rfl) rfl rfl rfl laidOut (by kernel_rfl) rfl ⟨rfl, rfl, rfl, rfl, rfl, rfl, rfl⟩ rfl rfl (by kernel_rfl) (by kernel_rfl) Ybaf.func5 (by kernel_rfl)
    (of_decide_eq_true (by kernel_rfl)) (by unfold Func.isWrapper; first | (rw [if_pos (by decide +kernel)]; kernel_rfl) | (rw [if_neg (by decide +kernel)]; exact ⟨rfl, rfl⟩)) stops.symm rfl stopKnobs.symm (by kernel_rfl)
    (by kernel_rfl) (by kernel_rfl) (by kernel_rfl) (by kernel_rfl) (by kernel_rfl) (by kernel_rfl) (by kernel_rfl) (by kernel_rfl) (by kernel_rfl) rfl (by kernel_rfl) rfl rfl
    rfl rfl
    rfl (by kernel_rfl) (by kernel_rfl) (by kernel_rfl) (by decide) (by kernel_rfl)
    (OpenClaim.moreEntering_of (by kernel_rfl) (by kernel_rfl) (by kernel_rfl) (by kernel_rfl) (by kernel_rfl) (by kernel_rfl) (by kernel_rfl) (by kernel_rfl) (by kernel_rfl) (by kernel_rfl))
    ⟨_, WideRow.started_initial, quiet _⟩
    (fun os started _ H enc _ => rt_lifted os started H enc)

end Go.Proofs.YbulkczjkFmt
