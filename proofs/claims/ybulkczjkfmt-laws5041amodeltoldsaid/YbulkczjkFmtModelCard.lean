/-
  LawS5041AModel: the told card.
-/
import Derived.Test.YbulkczjkFmtLawM
import Derived.Test.YbulkczjkFmtCards
import Derived.ProofKit
import Derived.OpenShut
import Derived.ShutString
import Derived.ChangeOld
import Derived.Below
import Derived.Carry
import Derived.Deep.Slices
import Derived.Stop.Joined
import Derived.Stop.JoinedTold
import Derived.SevenToldRow
namespace Go.Proofs.YbulkczjkFmt
open Go.ChangeShapes Go.WideShapes Go.ChangeAt Go.RowKit Go.Extern.Stop Go.Stop Go.Extern
open Go.ChangeMaps (open_string shut_string)

theorem own : ownKnob Ybaf.prog.godebug = none := by kernel_rfl
theorem laidOut : laidOutB Ybaf.pinned.checked.prog = true := by kernel_rfl
theorem stops : Ybaf.pinned.checked.prog.stops = ["fmt.errorf"] := by kernel_rfl
theorem stopKnobs : Ybaf.pinned.checked.prog.stopKnobs = [] := by kernel_rfl
theorem quiet (os : Os) : Stop.quiet Ybaf.pinned.checked.prog os := by
  intro k hk
  rw [stopKnobs] at hk
  cases hk

instance : Inhabited Msg := ⟨⟨0, 0, 0, 0, false, false⟩⟩

theorem nat_of {z : Int} (h : (Lit.int .u8 z).wf = true) : ∃ x : Nat, z = (x : Int) ∧ x < 256 := by
  have b := bounds_u8 h
  exact ⟨z.toNat, by omega, by omega⟩

theorem six {α : Type} {l : List α} (h : l.length = 6) : ∃ a b c d e f, l = [a, b, c, d, e, f] := by
  match l, h with
  | [a, b, c, d, e, f], _ => exact ⟨a, b, c, d, e, f, rfl⟩

set_option maxRecDepth 100000 in
/-- A slice of messages that came in. -/
theorem view_msgs {H : Type} {enc : TypeId × Value → H} {W : World} {a : Option Addr} {len cap : Nat} {d : DataW H} {p : List MemPlace} {b : Bool} {n : Nat}
    (h : DataW.Trod enc Ybaf.prog W n (fun _ => true) b 22 (.slice a len cap) d p) : ∃ ms, MsgsIn W a len ms := by
  obtain ⟨fuel, hf⟩ := h
  rcases Go.Deep.open_slice Ybaf.underlying22 hf with ⟨hcs, _⟩ | ⟨x, l, c, m, k, D, Pl, hcs, _, hl, hm, hmm, _, hx⟩
  · simp [Value.cells] at hcs
    obtain ⟨rfl, rfl, rfl⟩ := hcs
    exact ⟨fun _ => default, fun h => by omega, fun i hi => by omega⟩
  · simp [Value.cells] at hcs
    obtain ⟨rfl, rfl, rfl⟩ := hcs
    have hm' : m = cap := by simpa using hmm
    have each : ∀ i, i < len → ∃ y : Msg, (∀ j u, (msgIn y)[j]? = some u → W.cell? (x.add (i * 6 + j)) = some u) ∧ y.sd < 256 ∧ y.bs < 256 ∧ y.bc < 256 ∧ y.ow < 256 := by
      intro i hi
      obtain ⟨cs', h1, h2⟩ := hx i (by omega)
      rw [show Ybaf.prog.cellsOf 37 = 6 by kernel_rfl] at h1
      obtain ⟨_, hlen, hcell⟩ := World.cells?_some h1
      obtain ⟨xs, k', hk, hxy, _, hxl, hfs⟩ := DataW.trod_struct Ybaf.underlying37 h2
      have k5 : Ybaf.prog.cellsOf 5 = 1 := by kernel_rfl
      have k4 : Ybaf.prog.cellsOf 4 = 1 := by kernel_rfl
      obtain ⟨y0, y1, y2, y3, y4, y5, rfl⟩ := six (show xs.length = 6 from hxl)
      obtain ⟨v0, v1, v2, v3, v4, v5, rfl⟩ := six hlen
      have g0 := hfs 0 _ rfl
      have g1 := hfs 1 _ rfl
      have g2 := hfs 2 _ rfl
      have g3 := hfs 3 _ rfl
      have g4 := hfs 4 _ rfl
      have g5 := hfs 5 _ rfl
      simp [k4, k5] at g0 g1 g2 g3 g4 g5
      obtain ⟨z0, e0, _, w0⟩ := DataW.trod_int Ybaf.underlying5 g0
      obtain ⟨z1, e1, _, w1⟩ := DataW.trod_int Ybaf.underlying5 g1
      obtain ⟨z2, e2, _, w2⟩ := DataW.trod_int Ybaf.underlying5 g2
      obtain ⟨z3, e3, _, w3⟩ := DataW.trod_int Ybaf.underlying5 g3
      obtain ⟨z4, e4, _⟩ := DataW.trod_bool Ybaf.underlying4 g4
      obtain ⟨z5, e5, _⟩ := DataW.trod_bool Ybaf.underlying4 g5
      obtain ⟨x0, rfl, b0⟩ := nat_of w0
      obtain ⟨x1, rfl, b1⟩ := nat_of w1
      obtain ⟨x2, rfl, b2⟩ := nat_of w2
      obtain ⟨x3, rfl, b3⟩ := nat_of w3
      simp at e0 e1 e2 e3 e4 e5
      subst e0 e1 e2 e3 e4 e5
      refine ⟨⟨x0, x1, x2, x3, z4, z5⟩, fun j u hu => ?_, b0, b1, b2, b3⟩
      have hj : j < 6 := by
        have := (List.getElem?_eq_some_iff.1 hu).1
        simpa [msgIn] using this
      have := hcell j hj
      rw [Go.Deep.add_add] at this
      rw [this]
      exact hu
    obtain ⟨ms, hms⟩ := Go.Deep.choose_lt each
    refine ⟨ms, fun h0 => ?_, fun i hi => (hms i hi).2⟩
    obtain ⟨bb, off, spot⟩ := x
    have hc0 := (hms 0 h0).1 0 _ rfl
    have hspot : spot = none := by simpa [Addr.add] using World.cell?_spot hc0
    subst hspot
    refine ⟨bb, off, rfl, ?_, fun i hi j u hu => ?_⟩
    · have := World.block_lt_of_cell? W _ hc0
      simpa [Addr.add] using this
    · have := (hms i hi).1 j u hu
      rwa [show (⟨bb, off, none⟩ : Addr).add (i * 6 + j) = ⟨bb, off + i * 6 + j, none⟩ by simp [Addr.add, Nat.add_assoc]] at this

theorem trodAll_five {H : Type} {enc : TypeId × Value → H} {P : Program} {w : World} {base : Nat} {spare : Nat → Bool} {held : Bool} {t t' t'' t3 t4 : TypeId} {args : Array Value} {ds : List (DataW H)} {ps : List MemPlace} (h : DataW.TrodAll enc P w base spare held [t, t', t'', t3, t4] args.toList ds ps) :
    ∃ v v' v'' v3 v4 d d' d'' d3 d4 p p' p'' p3 p4, args = #[v, v', v'', v3, v4] ∧ ds = [d, d', d'', d3, d4] ∧ ps = p ++ (p' ++ (p'' ++ (p3 ++ p4))) ∧ DataW.Trod enc P w base spare held t v d p ∧ DataW.Trod enc P w base spare held t' v' d' p' ∧ DataW.Trod enc P w base spare held t'' v'' d'' p'' ∧ DataW.Trod enc P w base spare held t3 v3 d3 p3 ∧ DataW.Trod enc P w base spare held t4 v4 d4 p4 := by
  obtain ⟨v, vs, d, ds', p, q, hargs, rfl, rfl, hd, hrest⟩ := trodAll_cons h
  obtain ⟨v1, vs1, d1, ds1, p1, q1, rfl, rfl, rfl, hd1, hrest1⟩ := trodAll_cons hrest
  obtain ⟨v2, vs2, d2, ds2, p2, q2, rfl, rfl, rfl, hd2, hrest2⟩ := trodAll_cons hrest1
  obtain ⟨v3, vs3, d3, ds3, p3, q3, rfl, rfl, rfl, hd3, hrest3⟩ := trodAll_cons hrest2
  obtain ⟨v4, vs4, d4, ds4, p4, q4, rfl, rfl, rfl, hd4, hrest4⟩ := trodAll_cons hrest3
  obtain ⟨rfl, rfl, rfl⟩ := trodAll_nil hrest4
  exact ⟨v, v1, v2, v3, v4, d, d1, d2, d3, d4, p, p1, p2, p3, p4, by rw [← Array.toArray_toList (xs := args), hargs], rfl, by simp, hd, hd1, hd2, hd3, hd4⟩

theorem trodAll_mk5 {H : Type} {enc : TypeId × Value → H} {P : Program} {w : World} {base : Nat} {spare : Nat → Bool} {held : Bool} {t t' t'' t3 t4 : TypeId} {v v' v'' v3 v4 : Value} {d d' d'' d3 d4 : DataW H} {p p' p'' p3 p4 : List MemPlace} (h : DataW.Trod enc P w base spare held t v d p) (h' : DataW.Trod enc P w base spare held t' v' d' p')
    (h'' : DataW.Trod enc P w base spare held t'' v'' d'' p'') (h3 : DataW.Trod enc P w base spare held t3 v3 d3 p3) (h4 : DataW.Trod enc P w base spare held t4 v4 d4 p4) : DataW.TrodAll enc P w base spare held [t, t', t'', t3, t4] [v, v', v'', v3, v4] [d, d', d'', d3, d4] (p ++ (p' ++ (p'' ++ (p3 ++ p4)))) :=
  ⟨p, p' ++ (p'' ++ (p3 ++ p4)), h, trodAll_mk4 h' h'' h3 h4, rfl⟩

set_option maxRecDepth 100000 in
theorem model_lifted (os : Os) (started : os.Started) (H : Type) (enc : TypeId × Value → H) :
    ReturnsInTold none {} Ybaf.checked os 3 .any Input.okWide ((OpenSpec.ofChange Rows.lawS5041AModelSpec).preRow enc Ybaf.prog Ybaf.f3 [] false []) (fun F => ((OpenSpec.ofChange Rows.lawS5041AModelSpec).at F).post enc Ybaf.prog Ybaf.f3 false true false false) (aloneAtReturn Ybaf.prog) nothingAlways := by
  refine returnsInTold_of_row (C := Ybaf.checked) (s := OpenSpec.ofChange Rows.lawS5041AModelSpec) (by kernel_rfl) own started (by kernel_rfl) Ybaf.func3
    (OpenSpec.witness_stopped (enc := enc) (C := Ybaf.checked) false ⟨#[], #[.int .u8 0, .int .u8 0, .int .u8 0, .int .u8 0, .slice none 0 0], []⟩ 8 (by kernel_rfl) (by kernel_rfl) (by kernel_rfl) (by kernel_rfl)) ?_
  intro F W base args ds gs before _ hF hval0 hW _ _ _ _ _
  have hval : ∀ (j : Nat) t v, Ybaf.f3.params[j]? = some t → args[j]? = some v → Value.okWide Ybaf.prog W .any base t v := hval0
  have hW' := hW
  obtain ⟨p, q, hA0, hV, rfl, hfz, hnd⟩ := hW
  have hA : DataW.TrodAll enc Ybaf.prog W 0 (fun _ => true) true Ybaf.f3.params.toList args.toList ds p := hA0
  rw [Ybaf.params3] at hA hval
  obtain ⟨v0, v1, v2, v3, v4, d0, d1, d2, d3, d4, p0, p1, p2, p3, p4, rfl, rfl, rfl, h0, h1, h2, h3, h4⟩ := trodAll_five hA
  obtain ⟨rfl, rfl⟩ := trodVars_none hV
  obtain ⟨z0, rfl, rfl, rfl, w0⟩ := open_int Ybaf.underlying5 (hval 0 5 v0 rfl rfl) h0
  obtain ⟨z1, rfl, rfl, rfl, w1⟩ := open_int Ybaf.underlying5 (hval 1 5 v1 rfl rfl) h1
  obtain ⟨z2, rfl, rfl, rfl, w2⟩ := open_int Ybaf.underlying5 (hval 2 5 v2 rfl rfl) h2
  obtain ⟨z3, rfl, rfl, rfl, w3⟩ := open_int Ybaf.underlying5 (hval 3 5 v3 rfl rfl) h3
  obtain ⟨sa, L, sc, rfl⟩ := okWide_slice Ybaf.underlying22 (hval 4 22 v4 rfl rfl)
  have lt4 : ∀ x ∈ p4, x.block < W.heap.size := by obtain ⟨m, hm⟩ := h4; exact DataW.trod_lt m _ _ _ hm
  obtain ⟨ms, hms⟩ := view_msgs h4
  obtain ⟨x, rfl, b0⟩ := nat_of w0
  obtain ⟨mm, rfl, b1⟩ := nat_of w1
  obtain ⟨cm, rfl, b2⟩ := nat_of w2
  obtain ⟨tg, rfl, b3⟩ := nat_of w3
  clear hA0 hval0
  refine (model_any x mm cm tg sa L sc ms b0 b1 b2 b3 W hms).mono fun e W' ⟨he, bel⟩ => ?_
  subst he
  exact ⟨_, rfl, _, _, _, [], _, [], hW', trodAll_mk1 (shut_bool Ybaf.underlying4 _), trodAll_mk5 (shut_int Ybaf.underlying5 w0) (shut_int Ybaf.underlying5 w1) (shut_int Ybaf.underlying5 w2) (shut_int Ybaf.underlying5 w3) (Below.trod laidOut (by kernel_rfl) (of_decide_eq_true (by kernel_rfl)) h4 bel lt4), rfl, bel.frame _, fun h => by cases h⟩

theorem model_card : Rows.LawS5041AModelToldSaid :=
  Claim7.holds_of_told_any 3 Ybaf.f3 "fmt.errorf" [] [] _ _ _ (by kernel_rfl) rfl rfl rfl laidOut (by kernel_rfl) rfl ⟨rfl, rfl, rfl, rfl, rfl, rfl, rfl⟩ rfl rfl (by kernel_rfl) (by kernel_rfl) Ybaf.func3 (by kernel_rfl)
    (of_decide_eq_true (by kernel_rfl)) (by unfold Func.isWrapper; first | (rw [if_pos (by decide +kernel)]; kernel_rfl) | (rw [if_neg (by decide +kernel)]; exact ⟨rfl, rfl⟩)) stops.symm rfl stopKnobs.symm (by kernel_rfl)
    (by kernel_rfl) (by kernel_rfl) (by kernel_rfl) (by kernel_rfl) (by kernel_rfl) (by kernel_rfl) (by kernel_rfl) (by kernel_rfl) (by kernel_rfl) rfl (by kernel_rfl) rfl rfl
    rfl rfl
    rfl (by kernel_rfl) (by kernel_rfl) (by kernel_rfl) (by decide) (by kernel_rfl)
    (OpenClaim.moreEntering_of (by kernel_rfl) (by kernel_rfl) (by kernel_rfl) (by kernel_rfl) (by kernel_rfl) (by kernel_rfl) (by kernel_rfl) (by kernel_rfl) (by kernel_rfl) (by kernel_rfl))
    ⟨_, WideRow.started_initial, quiet _⟩
    (fun os started _ H enc _ => model_lifted os started H enc)

end Go.Proofs.YbulkczjkFmt
