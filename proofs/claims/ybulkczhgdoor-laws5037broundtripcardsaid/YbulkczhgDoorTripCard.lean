/-
  LawS5037BRoundTrip: the row, and the tied card.
-/
import Derived.Test.YbulkczhgDoorKit
import Derived.Test.YbulkczhgDoorTie
import Derived.Test.YbulkczhgDoorCards
import Derived.SevenTiedAt
namespace Go.Proofs.YbulkczhgDoor
open Go.ChangeShapes Go.WideShapes Go.ChangeAt Go.RowKit

theorem rt_walk (va ta : Option Addr) (vlen vcap tlen tcap : Nat) (zs ys : List Int) (kd : Int) (a0 a1 : Addr) (w : World)
    (hv : ViewI .u64 w va vlen zs) (hz : ∀ z ∈ zs, (Lit.int .u64 z).wf = true) (ht : ViewI .u8 w ta tlen ys) (hy : ∀ z ∈ ys, (Lit.int .u8 z).wf = true) (htn : ta = none → tlen = 0 ∧ tcap = 0) (hvars : Vars w a0 a1) :
    Calls Ybad.prog 5 #[.slice va vlen vcap, .slice ta tlen tcap, .int .u8 kd] w fun e w' => e = .returned (.bool true) ∧ Below w.heap.size w w' := by
  by_cases h : 1024 < vlen ∨ 1024 < tlen
  · exact rt_big va ta vlen vcap tlen tcap kd w h
  · exact rt_any va ta vlen vcap tlen tcap zs _ kd a0 a1 w (by omega) (by omega) hv (fun z hm => by have := bounds_u64 (hz z hm); omega) (view_bytes ht hy) htn hvars

set_option maxRecDepth 100000 in
theorem rt_lifted (os : Os) (started : os.Started) (H : Type) (enc : TypeId × Value → H) :
    ReturnsInHanded {} Ybad.checked os 5 .any (fun w args => (Rows.lawS5037BRoundTripSpec.pre enc Ybad.prog Ybad.f5 [] false w args ∧ laidMetH Ybad.prog laid2 w) ∧ sizedMet enc Ybad.prog Ybad.f5 (OpenSpec.ofChange Rows.lawS5037BRoundTripSpec) false w args)
      (Rows.lawS5037BRoundTripSpec.post enc Ybad.prog Ybad.f5 false true false false) := by
  refine returnsInHanded_of_change_and (C := Ybad.checked) (X := fun w _ => laidMetH Ybad.prog laid2 w) (fun _ _ _ hh h => h.of_heap hh) Ybad.own started (by kernel_rfl) Ybad.func5
    (ChangeSpec.witness_shaped (enc := enc) (C := Ybad.checked) (os := os) (X := fun w _ => laidMetH Ybad.prog laid2 w) false (World.doorLaid Ybad.prog 47 os) #[.slice none 0 0, .slice none 0 0, .int .u8 0] 8 rfl (World.shaped_of_RefB (by kernel_rfl) (by kernel_rfl)) (by kernel_rfl) (by kernel_rfl) (by kernel_rfl) (door_met os _)) ?_
  intro W base args ds gs before hval0 hW _ _ hL _
  have hval : ∀ (j : Nat) t v, Ybad.f5.params[j]? = some t → args[j]? = some v → Value.okWide Ybad.prog W .any base t v := hval0
  have hW' := hW
  obtain ⟨p, q, hA0, hV0, rfl, hfz, hnd⟩ := hW
  have hA : DataW.TrodAll enc Ybad.prog W 0 (fun _ => true) true Ybad.f5.params.toList args.toList ds p := hA0
  have hV : DataW.TrodVars enc Ybad.prog W (fun _ => true) [nBody, nShort] gs q := hV0
  rw [Ybad.params5] at hA hval
  obtain ⟨v0, v1, v2, d0, d1, d2, p0, p1, p2, rfl, rfl, rfl, h0, h1, h2⟩ := trodAll_three hA
  obtain ⟨x0, x1, hx0, hx1⟩ := of_laid hL
  obtain ⟨rfl, rfl⟩ := hV.unique (vars_read2 enc gBody tBody Ybad.underlying27 hx0 trivial gShort tShort Ybad.underlying27 hx1 trivial _)
  obtain ⟨va, vlen, vcap, rfl⟩ := okWide_slice Ybad.underlying45 (hval 0 45 v0 rfl rfl)
  obtain ⟨ta, tlen, tcap, rfl⟩ := okWide_slice Ybad.underlying34 (hval 1 34 v1 rfl rfl)
  obtain ⟨kd, rfl, rfl, rfl, wk⟩ := open_int Ybad.underlying5 (hval 2 5 v2 rfl rfl) h2
  have lt0 : ∀ x ∈ p0, x.block < W.heap.size := by obtain ⟨m, hm⟩ := h0; exact DataW.trod_lt m _ _ _ hm
  have lt1 : ∀ x ∈ p1, x.block < W.heap.size := by obtain ⟨m, hm⟩ := h1; exact DataW.trod_lt m _ _ _ hm
  obtain ⟨zs, hz1, _, hz3⟩ := view_ints Ybad.underlying45 Ybad.underlying47 (by kernel_rfl) h0
  obtain ⟨ys, hy1, hy2, hy3⟩ := view_ints Ybad.underlying34 Ybad.underlying5 (by kernel_rfl) h1
  clear hA0 hV0 hval0
  refine (rt_walk va ta vlen vcap tlen tcap zs ys kd x0 x1 W hz1 hz3 hy1 hy3 hy2 (vars_of hx0 hx1)).mono fun e W' ⟨he, bel⟩ => ?_
  subst he
  have hv := vars_of hx0 hx1
  have l0 := World.block_lt_of_cell? W ⟨0, 0, none⟩ hv.v0
  have l1 := World.block_lt_of_cell? W ⟨1, 0, none⟩ hv.v1
  have r0 := var?_below bel gBody l0 hx0
  have r1 := var?_below bel gShort l1 hx1
  exact ⟨_, rfl, _, _, _, [], _, [.cell 0 0, .cell 1 0], hW', trodAll_mk1 (shut_bool Ybad.underlying4 _), trodAll_mk3 (Below.trod Ybad.laidOut (by kernel_rfl) (of_decide_eq_true (by kernel_rfl)) h0 bel lt0) (Below.trod Ybad.laidOut (by kernel_rfl) (of_decide_eq_true (by kernel_rfl)) h1 bel lt1) (shut_int Ybad.underlying5 wk),
    vars_read2 enc gBody tBody Ybad.underlying27 r0 trivial gShort tShort Ybad.underlying27 r1 trivial _, bel.frame _, fun h => by cases h⟩

theorem rt_holds : Rows.LawS5037BRoundTripSaid :=
  OpenClaim.holds_of_wide 5 Ybad.f5 rfl rfl rfl rfl rfl rfl rfl ⟨rfl, rfl, rfl, rfl, rfl⟩ rfl rfl rfl rfl rfl (by kernel_rfl) Ybad.func5 (by kernel_rfl)
    (of_decide_eq_true (by kernel_rfl)) (by unfold Func.isWrapper; first | (rw [if_pos (by decide +kernel)]; kernel_rfl) | (rw [if_neg (by decide +kernel)]; exact ⟨rfl, rfl⟩))
    (fun os started H enc _ => rt_lifted os started H enc)

theorem roundTrip_card : Rows.LawS5037BRoundTripCardSaid :=
  Claim7.holds_tied_plain_at .later [] [.sentinel, .sentinel] true (true, "2c259d8d6151cf34b3f40edb45a95acb123b461c0e688329c23e7f0db286feb2") true
    rt_holds (fun _ h => by cases h) (by kernel_rfl) (fun _ h => by cases h) lawS5037BRoundTrip_row_tie rfl ⟨rfl, rfl⟩ (by kernel_rfl) rfl
    (fun f fn hf hfn => by
      obtain rfl : f = 5 := Option.some.inj ((show Ybad.prog.funcNamed Rows.lawS5037BRoundTripRow.func = some 5 by kernel_rfl).symm.trans hf) |>.symm
      obtain rfl : fn = Ybad.f5 := (Option.some.inj (Ybad.func5.symm.trans hfn)).symm
      exact ⟨by kernel_rfl, fun j t ht => by
        rw [Ybad.params5] at ht
        have hm : t ∈ [45, 34, 5] := by simpa using Array.mem_of_getElem? ht
        have hall : ([45, 34, 5].all fun u => !Ybad.prog.wantsStandIn u) = true := by kernel_rfl
        exact (show Ybad.prog.wantsStandIn t = false by simpa using List.all_eq_true.1 hall t hm)⟩)
    (by kernel_rfl)

end Go.Proofs.YbulkczhgDoor
