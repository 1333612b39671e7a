/-
  THE ROW AND THE TIED CARD OF FnAdmitOnlyAsks, after the guide's Mapy (MapyProofs, MapyCard): the listed sentinel's cell out of the condition; the named variable reads again by 'Below.trodVars'; the card by the builder's one call over the given tie.
-/
import Derived.Test.Qxb6616663aDoorRows
import Derived.Test.Qxb6616663aDoorTie
import Derived.Test.Qxb6616663aDoorCards
import Derived.Test.Qxb6616663aDoorWalks
import Derived.ProofKit
import Derived.LaidMore
import Derived.OpenShut
import Derived.OpenVars
import Derived.Stop.Joined
import Derived.SevenTiedAt
namespace Go.Proofs.Qxb6616663aDoor
open Go.ChangeShapes Go.WideShapes Go.ChangeAt Go.WideMaps Go.WideElems Go.RowKit

theorem own : ownKnob Tryd.prog.godebug = none := by kernel_rfl
theorem laidOut : laidOutB Tryd.prog = true := by kernel_rfl
theorem gErr : Tryd.prog.globalNamed (Rows.fnAdmitOnlyAsksSpec.vars.headD "") = some 0 := by kernel_rfl
theorem tErr : (Tryd.prog.globals[0]?).map (·.type) = some 25 := by kernel_rfl

/-- The door's own heap meets the condition. -/
theorem door_met (os : Os) (args : Array Value) : laidMetH Tryd.prog Rows.fnAdmitOnlyAsksRow.laid ((World.doorLaid Tryd.prog 400 os).forCall (fun _ _ => 0) ⟨#[], args, []⟩).memory :=
  laidMetH_of_parts3 (fuel := 8) (laidMet_of_run' 8 (by kernel_rfl) (by kernel_rfl)) (by kernel_rfl) (by kernel_rfl)

/-- WHAT THE CONDITION GIVES THE WALK: the variable's cell holds an interface value that is not nil. -/
theorem of_laid {W : World} (h : laidMetH Tryd.prog Rows.fnAdmitOnlyAsksRow.laid W) : 0 < W.heap.size ∧ ∃ T x, W.cell? ⟨0, 0, none⟩ = some (.iface T x) := by
  rw [MakeChecks.laidMetH_plain _ _ _ (by kernel_rfl)] at h
  obtain ⟨ps, ⟨g0, t0, cs0, f0, p0, q0, hg0, ht0, hv0, hd0, _, _⟩, _, _⟩ := h
  obtain rfl := Option.some.inj (gErr.symm.trans hg0)
  obtain rfl := Option.some.inj (tErr.symm.trans ht0)
  obtain ⟨fu, u, v, hcs, _, _⟩ := iface_of_trod Tryd.underlying25 hd0
  have hc := World.var?_cell hg0 hv0 0
  rw [Array.eq_one_of_toList hcs] at hc
  refine ⟨?_, u, v, by simpa using hc⟩
  have : W.cell? ⟨0, 0, none⟩ = some (.iface u v) := by simpa using hc
  exact World.block_lt_of_cell? W ⟨0, 0, none⟩ this

set_option maxRecDepth 100000 in
theorem lifted (os : Os) (started : os.Started) (H : Type) (enc : TypeId × Value → H) :
    ReturnsInHanded {} Tryd.checked os 3 .any (fun w args => (Rows.fnAdmitOnlyAsksSpec.pre enc Tryd.prog Tryd.f3 [] false w args ∧ laidMetH Tryd.prog Rows.fnAdmitOnlyAsksRow.laid w) ∧ sizedMet enc Tryd.prog Tryd.f3 (OpenSpec.ofChange Rows.fnAdmitOnlyAsksSpec) false w args)
      (Rows.fnAdmitOnlyAsksSpec.post enc Tryd.prog Tryd.f3 false true false false) := by
  refine returnsInHanded_of_change_and (C := Tryd.checked) (X := fun w _ => laidMetH Tryd.prog Rows.fnAdmitOnlyAsksRow.laid w) (fun _ _ _ hh h => h.of_heap hh) own started (by kernel_rfl) Tryd.func3
    (ChangeSpec.witness_shaped (enc := enc) (C := Tryd.checked) (os := os) (X := fun w _ => laidMetH Tryd.prog Rows.fnAdmitOnlyAsksRow.laid w) false (World.doorLaid Tryd.prog 400 os) #[.bool false, .bool false] 8 rfl (World.shaped_of_RefB (by kernel_rfl) (by kernel_rfl)) (by kernel_rfl) (by kernel_rfl) (by kernel_rfl) (door_met os _)) ?_
  intro W base args ds gs before hval0 hW _ _ hL _
  have hval : ∀ (j : Nat) t v, Tryd.f3.params[j]? = some t → args[j]? = some v → Value.okWide Tryd.prog W .any base t v := hval0
  have hW' := hW
  obtain ⟨p, q, hA0, hV, rfl, hfz, hnd⟩ := hW
  have hA : DataW.TrodAll enc Tryd.prog W 0 (fun _ => true) true Tryd.f3.params.toList args.toList ds p := hA0
  rw [Tryd.params3] at hA hval
  obtain ⟨v0, v1, d0, d1, p0, p1, rfl, rfl, rfl, h0, h1⟩ := trodAll_two hA
  have hV2 : DataW.TrodVars enc Tryd.prog W (fun _ => true) Rows.fnAdmitOnlyAsksSpec.vars gs q := hV
  obtain ⟨g, gr, rfl⟩ : ∃ g gr, gs = g :: gr := by
    cases gs with
    | nil => exact absurd hV2 (by intro h; cases h)
    | cons g gr => exact ⟨g, gr, rfl⟩
  obtain rfl : gr = [] := by
    obtain ⟨_, _, _, _, _, _, _, _, _, _, hr, _⟩ := hV2
    cases gr with
    | nil => rfl
    | cons _ _ => exact absurd hr (by intro h; cases h)
  obtain ⟨c, rfl, rfl, rfl⟩ := open_bool Tryd.underlying4 (hval 0 4 v0 rfl rfl) h0
  obtain ⟨d, rfl, rfl, rfl⟩ := open_bool Tryd.underlying4 (hval 1 4 v1 rfl rfl) h1
  obtain ⟨hz, T, x, hc⟩ := of_laid hL
  clear hA0 hval0
  refine (law c d T x W hz hc).mono fun e W' ⟨he, bel⟩ => ?_
  subst he
  exact ⟨_, rfl, _, _, _, [], [], q, hW', trodAll_mk1 (shut_bool Tryd.underlying4 _), trodAll_mk2 (shut_bool Tryd.underlying4 _) (shut_bool Tryd.underlying4 _), Below.trodVars laidOut bel (by kernel_rfl) hV2, bel.frame _, fun h => by cases h⟩

theorem row_holds : Rows.FnAdmitOnlyAsksSaid :=
  OpenClaim.holds_of_wide 3 Tryd.f3 rfl rfl rfl rfl rfl rfl rfl ⟨rfl, rfl, rfl, rfl, rfl⟩ rfl rfl rfl rfl rfl (by kernel_rfl) Tryd.func3 (by kernel_rfl)
    (of_decide_eq_true (by kernel_rfl)) (by unfold Func.isWrapper; first | (rw [if_pos (by decide +kernel)]; kernel_rfl) | (rw [if_neg (by decide +kernel)]; exact ⟨rfl, rfl⟩))
    (fun os started H enc _ => lifted os started H enc)

/-- THE STATEMENT: the tied card. -/
theorem card_holds : Rows.FnAdmitOnlyAsksCardSaid :=
  Claim7.holds_tied_plain_at .later [] [.sentinel] true (true, "b6fe82e48c28fb1eddafe64b565b31d288c2aefa476b474fc47012af20f09b76") false
    row_holds (fun _ h => by cases h) (by kernel_rfl) (fun _ h => by cases h) fnAdmitOnlyAsks_row_tie rfl ⟨rfl, rfl⟩ (by kernel_rfl) rfl
    (fun f fn hf hfn => by
      obtain rfl : f = 3 := Option.some.inj ((show Tryd.prog.funcNamed Rows.fnAdmitOnlyAsksRow.func = some 3 by kernel_rfl).symm.trans hf) |>.symm
      obtain rfl : fn = Tryd.f3 := (Option.some.inj (Tryd.func3.symm.trans hfn)).symm
      exact ⟨by kernel_rfl, fun j t ht => by
        rw [Tryd.params3] at ht
        have hm : t ∈ [4, 4] := by simpa using Array.mem_of_getElem? ht
        have hall : ([4, 4].all fun u => !Tryd.prog.wantsStandIn u) = true := by kernel_rfl
        exact (show Tryd.prog.wantsStandIn t = false by simpa using List.all_eq_true.1 hall t hm)⟩)
    (by kernel_rfl)
end Go.Proofs.Qxb6616663aDoor
