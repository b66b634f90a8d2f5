/-
  LawS5041BEncodes: the row.
-/
import Derived.Test.YbulkczjkLawE
import Derived.ProofKit
import Derived.OpenShut
import Derived.ChangeOld
import Derived.Below
import Derived.Deep.SlicePairs
namespace Go.Proofs.Ybulkczjk
open Go.ChangeShapes Go.WideShapes Go.ChangeAt Go.RowKit

theorem own : ownKnob Yba.prog.godebug = none := by kernel_rfl
theorem laidOut : laidOutB Yba.prog = true := by kernel_rfl

/-- A slice of bytes that came in. -/
theorem view_bytes {H : Type} {enc : TypeId × Value → H} {W : World} {t e : TypeId} {a : Option Addr} {len cap : Nat} {d : DataW H} {p : List MemPlace} {b : Bool} {n : Nat}
    (ht : Yba.prog.underlying t = some (.slice e)) (he : Yba.prog.underlying e = some (.int .u8)) (hc : Yba.prog.cellsOf e = 1)
    (h : DataW.Trod enc Yba.prog W n (fun _ => true) b t (.slice a len cap) d p) : ∃ L, ViewB W a len L := by
  obtain ⟨fuel, hf⟩ := h
  rcases open_ints ht he hc hf with ⟨hcs, _⟩ | ⟨x, l, c, zs, hcs, _, hl, hm, hz, _, hcell, hwz⟩
  · simp [Value.cells] at hcs
    obtain ⟨rfl, rfl, rfl⟩ := hcs
    exact ⟨[], rfl, fun h => by omega⟩
  · simp [Value.cells] at hcs
    obtain ⟨rfl, rfl, rfl⟩ := hcs
    have hz' : zs.length = cap := by simpa using hz
    refine ⟨(zs.take len).map fun z => z.toNat.toUInt8, by rw [List.length_map, List.length_take]; omega, fun h0 => ?_⟩
    obtain ⟨bb, off, spot⟩ := x
    have hc0 := hcell 0 (by omega)
    have hspot : spot = none := by simpa [Addr.add] using World.cell?_spot hc0
    subst hspot
    refine ⟨bb, off, rfl, ?_, fun i hi => ?_⟩
    · have := World.block_lt_of_cell? W _ hc0
      simpa [Addr.add] using this
    · have hi' : i < len := by rw [List.length_map, List.length_take] at hi; omega
      have hiz : i < zs.length := by omega
      have := hcell i (by omega)
      rw [show (⟨bb, off, none⟩ : Addr).add i = ⟨bb, off + i, none⟩ by simp [Addr.add]] at this
      have hr := bounds_u8 (hwz zs[i] (List.getElem_mem _))
      have hd : zs.getD i 0 = zs[i] := by simp [hiz]
      have h1 : (zs[i].toNat.toUInt8).toNat = zs[i].toNat := by simp; omega
      have h2 : ((zs[i].toNat : Nat) : Int) = zs[i] := by omega
      rw [this, hd, List.getElem_map, List.getElem_take, h1, h2]

/-- A slice of pairs that came in. -/
theorem view_pairs {H : Type} {enc : TypeId × Value → H} {W : World} {a : Option Addr} {len cap : Nat} {d : DataW H} {p : List MemPlace} {b : Bool} {n : Nat}
    (h : DataW.Trod enc Yba.prog W n (fun _ => true) b 23 (.slice a len cap) d p) : ∃ al ca, Pairs W a len al ca := by
  obtain ⟨fuel, hf⟩ := h
  rcases Go.Deep.open_slice_pairs Yba.underlying23 Yba.underlying27 (by kernel_rfl) rfl rfl (by kernel_rfl) (by kernel_rfl) hf with ⟨hcs, _⟩ | ⟨x, l, c, m, k, V0, V1, D0, D1, P0, P1, hcs, _, hl, hm, hmm, _, hcell⟩
  · simp [Value.cells] at hcs
    obtain ⟨rfl, rfl, rfl⟩ := hcs
    exact ⟨fun _ => 0, fun _ => 0, fun h => by omega, fun i hi => by omega⟩
  · simp [Value.cells] at hcs
    obtain ⟨rfl, rfl, rfl⟩ := hcs
    have hm' : m = cap := by simpa using hmm
    have hint : ∀ i, i < len → ∃ x y : Nat, V0 i = .int .u64 x ∧ V1 i = .int .u64 y ∧ x < 18446744073709551616 ∧ y < 18446744073709551616 := by
      intro i hi
      obtain ⟨_, _, h0, h1⟩ := hcell i (by omega)
      obtain ⟨z0, e0, _, w0⟩ := DataW.trod_int Yba.underlying25 h0
      obtain ⟨z1, e1, _, w1⟩ := DataW.trod_int Yba.underlying25 h1
      have b0 := bounds_u64 w0
      have b1 := bounds_u64 w1
      refine ⟨z0.toNat, z1.toNat, ?_, ?_, by omega, by omega⟩
      · simp at e0; rw [e0]; congr 1; omega
      · simp at e1; rw [e1]; congr 1; omega
    refine ⟨fun i => if h : i < len then (hint i h).choose else 0, fun i => if h : i < len then (hint i h).choose_spec.choose else 0, fun h0 => ?_, fun i hi => ?_⟩
    · obtain ⟨bb, off, spot⟩ := x
      have hc0 := (hcell 0 (by omega)).1
      have hspot : spot = none := by simpa [Addr.add] using World.cell?_spot hc0
      subst hspot
      refine ⟨bb, off, rfl, ?_, fun i hi => ?_⟩
      · have := World.block_lt_of_cell? W _ hc0
        simpa [Addr.add] using this
      · obtain ⟨g0, g1, _, _⟩ := hcell i (by omega)
        have hs := (hint i hi).choose_spec.choose_spec
        have hadd : ∀ j, (⟨bb, off, none⟩ : Addr).add j = ⟨bb, off + j, none⟩ := fun j => by simp [Addr.add]
        rw [hadd] at g0 g1
        rw [← Nat.add_assoc] at g1
        simp only [hi, dif_pos]
        exact ⟨g0.trans (congrArg some hs.1), g1.trans (congrArg some hs.2.1)⟩
    · have hs := (hint i hi).choose_spec.choose_spec
      simp only [hi, dif_pos]
      exact ⟨hs.2.2.1, hs.2.2.2⟩

theorem enc_walk (ao sa : Option Addr) (n cap m sc : Nat) (L : List UInt8) (al ca : Nat → Nat) (w : World) (hv : ViewB w ao n L) (hp : Pairs w sa m al ca) :
    Calls Yba.prog 3 #[.slice ao n cap, .slice sa m sc] w fun e w' => e = .returned (.bool true) ∧ Below w.heap.size w w' := by
  by_cases h : 1024 < n ∨ 1024 < m
  · exact enc_big ao sa n cap m sc w h
  · obtain rfl := hv.1
    exact enc_any ao sa cap m sc L al ca w (by omega) (by omega) hv hp

set_option maxRecDepth 100000 in
theorem enc_lifted (os : Os) (started : os.Started) (H : Type) (enc : TypeId × Value → H) :
    ReturnsInHanded {} Yba.checked os 3 .any (Rows.lawS5041BEncodesSpec.pre6 enc Yba.prog Yba.f3 Rows.lawS5041BEncodesRow.domain false) (Rows.lawS5041BEncodesSpec.post enc Yba.prog Yba.f3 false true false false) := by
  refine returnsInHanded_of_change (C := Yba.checked) own started (by kernel_rfl) Yba.func3
    (ChangeSpec.witness6 (enc := enc) (C := Yba.checked) false ⟨#[], #[.slice none 0 0, .slice none 0 0], []⟩ 8 (by kernel_rfl) (by kernel_rfl) (by kernel_rfl) (by kernel_rfl)) ?_
  intro W base args ds gs before hval0 hW hcnd _
  have hval : ∀ (j : Nat) t v, Yba.f3.params[j]? = some t → args[j]? = some v → Value.okWide Yba.prog W .any base t v := hval0
  have hW' := hW
  obtain ⟨p, q, hA0, hV, rfl, hfz, hnd⟩ := hW
  have hA : DataW.TrodAll enc Yba.prog W 0 (fun _ => true) true Yba.f3.params.toList args.toList ds p := hA0
  rw [Yba.params3] at hA hval
  obtain ⟨v0, v1, d0, d1, p0, p1, rfl, rfl, rfl, h0, h1⟩ := trodAll_two hA
  obtain ⟨rfl, rfl⟩ := trodVars_none hV
  obtain ⟨ao, n, cap, rfl⟩ := okWide_slice Yba.underlying22 (hval 0 22 v0 rfl rfl)
  obtain ⟨sa, m, sc, rfl⟩ := okWide_slice Yba.underlying23 (hval 1 23 v1 rfl rfl)
  have lt0 : ∀ x ∈ p0, x.block < W.heap.size := by obtain ⟨m, hm⟩ := h0; exact DataW.trod_lt m _ _ _ hm
  have lt1 : ∀ x ∈ p1, x.block < W.heap.size := by obtain ⟨m, hm⟩ := h1; exact DataW.trod_lt m _ _ _ hm
  obtain ⟨L, hL⟩ := view_bytes Yba.underlying22 Yba.underlying5 (by kernel_rfl) h0
  obtain ⟨al, ca, hP⟩ := view_pairs h1
  clear hA0 hval0
  refine (enc_walk ao sa n cap m sc L al ca W hL hP).mono fun e W' ⟨he, bel⟩ => ?_
  subst he
  exact ⟨_, rfl, _, _, _, [], _, [], hW', trodAll_mk1 (shut_bool Yba.underlying4 _), trodAll_mk2 (Below.trod laidOut (by kernel_rfl) (of_decide_eq_true (by kernel_rfl)) h0 bel lt0) (Below.trod laidOut (by kernel_rfl) (of_decide_eq_true (by kernel_rfl)) h1 bel lt1), rfl, bel.frame _, fun h => by cases h⟩

theorem encodes_holds : Rows.LawS5041BEncodesSaid :=
  OpenClaim.holds_of_wide 3 Yba.f3 rfl rfl rfl rfl rfl rfl rfl ⟨rfl, rfl, rfl, rfl, rfl⟩ rfl rfl rfl rfl rfl (by kernel_rfl) Yba.func3 (by kernel_rfl)
    (of_decide_eq_true (by kernel_rfl)) (by unfold Func.isWrapper; first | (rw [if_pos (by decide +kernel)]; kernel_rfl) | (rw [if_neg (by decide +kernel)]; exact ⟨rfl, rfl⟩))
    (fun os started H enc _ => enc_lifted os started H enc)

end Go.Proofs.Ybulkczjk
