/-
  A REGION THAT DRAWS ITS ORDER AND ENDS IN A STORE INTO A CELL THAT IT ALSO LOADS ('errs = append(errs, f(..))', errs a captured variable): the kit's 'held' law (Derived/OrdersHeld.lean) asks its condition S also behind that store. Here S is not asked behind operation z, which waits for every load that is taken first.
-/
import Derived.OrdersHeld
import Derived.Deep.RegionHeld
namespace Go.Proofs.Qxb6616573aFmt
open Go

section
variable {P : Program} {ops : Array Oper} {Q : Exit → Act → World → Prop} {md : Region.Mode} {S : World → Prop} {z : Nat}

/-- Whatever order is picked, and S holds behind every operation but z. -/
def AnyBut (P : Program) (md : Region.Mode) (ops : Array Oper) (Q : Exit → Act → World → Prop) (S : World → Prop) (z : Nat) : Nat → Array Bool → Act → World → Prop
  | 0, listed, a, w => Region.ready md ops listed = [] ∧ Q .normal a w
  | fuel + 1, listed, a, w =>
    (Region.ready md ops listed = [] → Q .normal a w) ∧
    ∀ i ∈ Region.ready md ops listed, wpOp P ops Q i (fun a' w' => (i = z ∨ S w') ∧ AnyBut P md ops Q S z fuel (listed.setIfInBounds i true) a' w') a w

theorem AnyBut.any : ∀ (fuel : Nat) (listed : Array Bool) (a : Act) (w : World), AnyBut P md ops Q S z fuel listed a w → wpAny P md ops Q fuel listed a w
  | 0, _, _, _, h => h
  | fuel + 1, _, _, _, h => ⟨h.1, fun i hi => wpOp_mono (fun a' w' h' => AnyBut.any fuel _ a' w' h'.2) (h.2 i hi)⟩

/-- z waits for i: while i has not come up z cannot. -/
def waitsFor (md : Region.Mode) (ops : Array Oper) (z i : Nat) : Bool := (ops[z]?).any fun o => o.after.any fun e => Region.binds md e && e.on == i

theorem not_ready {i : Nat} {listed : Array Bool} (hz : waitsFor md ops z i = true) (hi : listed.getD i true = false) : z ∉ Region.ready md ops listed := by
  intro h
  obtain ⟨_, o, ho, hall⟩ := mem_ready.1 h
  simp only [waitsFor, ho, Option.any_some, Array.any_eq_true'] at hz
  obtain ⟨e, he, hb⟩ := hz
  simp only [Bool.and_eq_true, beq_iff_eq] at hb
  have h1 := hall e he hb.1
  rw [hb.2] at h1
  rcases Nat.lt_or_ge i listed.size with h' | h'
  · simp [h'] at hi h1; rw [hi] at h1; cases h1
  · simp [Array.getElem?_eq_none h'] at h1

theorem AnyBut.first {i : Nat} {oi : Oper} {v : Value} (hi : ops[i]? = some oi) (hsel : ∀ (j : Nat) (o : Oper) cs b, ops[j]? = some o → o.op ≠ .select cs b)
    (hz : waitsFor md ops z i = true) (hQ : ∀ c a w, Q (.panic c) (a.put oi.dst v) w → Q (.panic c) a w) :
    ∀ (fuel : Nat) (listed : Array Bool) (a : Act) (w : World),
      (∀ j oj, ops[j]? = some oj → j ≠ i → listed.getD j true = false → (∀ e ∈ oj.after, Region.binds md e = true → e.on ≠ i) → oi.apart ops oj = true) →
      i ∈ Region.ready md ops listed → YieldsIf P ops S oi v a → S w →
      AnyBut P md ops Q S z fuel (listed.setIfInBounds i true) (a.put oi.dst v) w → AnyBut P md ops Q S z (fuel + 1) listed a w := by
  intro fuel
  induction fuel with
  | zero =>
    intro listed a w _ hr hy hS H
    refine ⟨fun h => (by rw [h] at hr; cases hr), fun j hj => ?_⟩
    by_cases hji : j = i
    · subst hji; exact hy.wpOp hi hS ⟨Or.inr hS, H⟩
    · have := ready_mono hj hji
      rw [H.1] at this
      cases this
  | succ fuel ih =>
    intro listed a w hfree hr hy hS H
    refine ⟨fun h => (by rw [h] at hr; cases hr), fun j hj => ?_⟩
    by_cases hji : j = i
    · subst hji; exact hy.wpOp hi hS ⟨Or.inr hS, H⟩
    · have hi0 := (mem_ready.1 hr).1
      have hjz : j ≠ z := fun e => not_ready hz hi0 (e ▸ hj)
      have h1 := H.2 j (ready_mono hj hji)
      obtain ⟨hjun, oj, hoj, hall⟩ := mem_ready.1 hj
      have hnot : ∀ e ∈ oj.after, Region.binds md e = true → e.on ≠ i := fun e he hb heq => by
        have h1 := hall e he hb
        rw [heq] at h1
        rcases Nat.lt_or_ge i listed.size with h' | h'
        · simp [h'] at hi0 h1; rw [hi0] at h1; cases h1
        · simp [Array.getElem?_eq_none h'] at h1
      have h2 := wpOp_putIf hoj (hfree j oj hoj hji hjun hnot) (fun cs b => hsel i oi cs b hi) (fun cs b => hsel j oj cs b hoj) hQ hy h1
      have hfree' : ∀ k ok, ops[k]? = some ok → k ≠ i → (listed.setIfInBounds j true).getD k true = false →
          (∀ e ∈ ok.after, Region.binds md e = true → e.on ≠ i) → oi.apart ops ok = true := fun k ok hk hki hun hno => by
        refine hfree k ok hk hki ?_ hno
        by_cases hjk : j = k
        · subst hjk; exact hjun
        · rw [getD_set_ne true hjk] at hun; exact hun
      refine wpOp_mono (fun a' w' h3 => ?_) h2
      have hS' : S w' := h3.2.1.resolve_left hjz
      refine ⟨Or.inr hS', ih (listed.setIfInBounds j true) a' w' hfree' (ready_mono hr (Ne.symm hji)) h3.1 hS' ?_⟩
      rw [Array.setIfInBounds_comm _ _ hji]
      exact h3.2.2

/-- Take number i first. -/
theorem AnyBut.take {i : Nat} {oi : Oper} (v : Value) {fuel : Nat} {listed : Array Bool} {a : Act} {w : World} (hi : ops[i]? = some oi)
    (hs : Region.noSelect ops = true) (hf : Region.free md ops listed i = true) (hr : (Region.ready md ops listed).contains i = true) (hz : waitsFor md ops z i = true)
    (hQ : ∀ c a w, Q (.panic c) (a.put oi.dst v) w → Q (.panic c) a w) (hy : YieldsIf P ops S oi v a) (hS : S w)
    (h : AnyBut P md ops Q S z fuel (listed.setIfInBounds i true) (a.put oi.dst v) w) : AnyBut P md ops Q S z (fuel + 1) listed a w :=
  AnyBut.first hi (Region.noSelect_spec hs) hz hQ fuel listed a w (Region.free_spec hi hf) (by simpa using hr) hy hS h

/-- One operation alone may come up: it is carried out; S is shown anew behind it. -/
theorem AnyBut.step {i : Nat} {o : Oper} {fuel : Nat} {listed : Array Bool} {a : Act} {w : World} (hr : Region.ready md ops listed = [i]) (ho : ops[i]? = some o)
    (h : ∀ K' : Act → World → Prop, Shut (∀ a w, S w → (S w → AnyBut P md ops Q S z fuel (listed.setIfInBounds i true) a w) → K' a w) → if Region.wanted o (yielded ops a.tmps) = true then Oper.wp P o a w K' Q else K' (a.put o.dst undef) w) :
    AnyBut P md ops Q S z (fuel + 1) listed a w := by
  refine ⟨fun h0 => (by rw [hr] at h0; cases h0), fun j hj => ?_⟩
  rw [hr] at hj
  obtain rfl := List.mem_singleton.1 hj
  exact wpOp_step ho (fun K' hK => h K' (fun a w hS hW => hK a w ⟨Or.inr hS, hW hS⟩))

/-- The same, the operation without a guard, written by its limbs. -/
theorem AnyBut.stepW {i : Nat} {dst : Option Nat} {op : Op} {ty : TypeId} {pos : String} {aft : Array Edge} {fuel : Nat} {listed : Array Bool} {a : Act} {w : World} (hr : Region.ready md ops listed = [i]) (ho : ops[i]? = some ⟨dst, op, ty, pos, aft, none⟩)
    (h : ∀ K' : Act → World → Prop, Shut (∀ a w, S w → (S w → AnyBut P md ops Q S z fuel (listed.setIfInBounds i true) a w) → K' a w) → Oper.wp P ⟨dst, op, ty, pos, aft, none⟩ a w K' Q) :
    AnyBut P md ops Q S z (fuel + 1) listed a w :=
  AnyBut.step hr ho fun K' hK => by
    rw [if_pos (by simp [Region.wanted])]
    exact h K' hK

/-- The last: operation z. -/
theorem AnyBut.last {o : Oper} {fuel : Nat} {listed : Array Bool} {a : Act} {w : World} (hr : Region.ready md ops listed = [z]) (ho : ops[z]? = some o) (hd : Region.ready md ops (listed.setIfInBounds z true) = [])
    (h : ∀ K' : Act → World → Prop, Shut (∀ a w, Q .normal a w → K' a w) → if Region.wanted o (yielded ops a.tmps) = true then Oper.wp P o a w K' Q else K' (a.put o.dst undef) w) :
    AnyBut P md ops Q S z (fuel + 1) listed a w := by
  refine ⟨fun h0 => (by rw [hr] at h0; cases h0), fun j hj => ?_⟩
  rw [hr] at hj
  obtain rfl := List.mem_singleton.1 hj
  refine wpOp_step ho (fun K' hK => h K' (fun a w hq => hK a w ⟨Or.inl rfl, ?_⟩))
  cases fuel with
  | zero => exact ⟨hd, hq⟩
  | succ n => exact ⟨fun _ => hq, by rw [hd]; simp⟩

theorem AnyBut.region {id : Nat} {a : Act} {w : World} (z : Nat) (S : World → Prop) (hm : P.follows .mixedOrders = true) (hS : S w.drew)
    (h : S w.drew → AnyBut P .any ops Q S z ops.size (Array.replicate ops.size false) a w.drew) : (Code.region id ops true).wp P Q a w :=
  wp_region_any hm (AnyBut.any _ _ _ _ (h hS))
end
end Go.Proofs.Qxb6616573aFmt
