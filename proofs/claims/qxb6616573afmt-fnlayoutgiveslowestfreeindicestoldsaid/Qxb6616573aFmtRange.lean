import Derived.Test.Qxb6616573aFmtRuns
namespace Go.Proofs.Qxb6616573aFmt
open Go.RowKit
set_option linter.unusedVariables false
set_option linter.unusedSimpArgs false
/-- 'for i, b := range t.fixed' under way: 'left x': the entry at x is still to come; cnt: how many are. -/
def RangeAt (w : World) (mb r n : Nat) (zs : List Int) (bt : Int → Nat) (left : Int → Bool) (cnt : Nat) : Prop :=
  ∃ D lf, w.ranges Tryf.prog 3 ptrElem mb r n D lf cnt ∧ (∀ x, Maps.has D (.int .i64 x) = decide (x ∈ zs)) ∧ (∀ x, x ∈ zs → D.atKey (.int .i64 x) .nil = .lit (.int .i64 (bt x))) ∧ (∀ x, lf (.int .i64 x) = left x) ∧ ∀ x, left x = true → x ∈ zs
theorem RangeAt.map {w : World} {mb r n : Nat} {zs : List Int} {bt : Int → Nat} {left : Int → Bool} {cnt : Nat} (h : RangeAt w mb r n zs bt left cnt) : MapAt w mb n zs bt := by
  obtain ⟨D, lf, h1, h2, h3, _⟩ := h
  exact ⟨D, h1.owns, h2, h3⟩
theorem RangeAt.fr {X : Nat → Prop} {w w' : World} {mb r n : Nat} {zs : List Int} {bt : Int → Nat} {left : Int → Bool} {cnt : Nat} (h : RangeAt w mb r n zs bt left cnt) (hf : Fr X w w') (h1 : ¬ X mb) (h2 : ¬ X r) : RangeAt w' mb r n zs bt left cnt := by
  obtain ⟨D, lf, hr, rest⟩ := h
  have l1 := hr.owns.lt
  have l2 := hr.lt
  obtain ⟨es, clock, since, seen, c0, hb, F, hs, hD, hr', rest'⟩ := hr
  exact ⟨D, lf, ⟨es, clock, since, seen, c0, (hf.block mb l1 h1).trans hb, F, hs, hD, (hf.block r l2 h2).trans hr', rest'⟩, rest⟩
theorem RangeAt.ne_blk {w : World} {mb r n : Nat} {zs : List Int} {bt : Int → Nat} {left : Int → Bool} {cnt : Nat} (h : RangeAt w mb r n zs bt left cnt) {b : Nat} {t : TypeId} {vs : List Value} (hb : Blk w b t vs) : r ≠ b := by
  rintro rfl
  obtain ⟨D, lf, ⟨es, clock, since, seen, c0, _, _, _, _, hr, _⟩, _⟩ := h
  unfold Blk at hb
  rw [hr] at hb
  cases hb
theorem RangeAt.ne_map {w : World} {mb r n : Nat} {zs : List Int} {bt : Int → Nat} {left : Int → Bool} {cnt : Nat} (h : RangeAt w mb r n zs bt left cnt) : mb ≠ r := by
  obtain ⟨D, lf, h, _⟩ := h
  exact fun e => h.ne e.symm
theorem RangeAt.lt {w : World} {mb r n : Nat} {zs : List Int} {bt : Int → Nat} {left : Int → Bool} {cnt : Nat} (h : RangeAt w mb r n zs bt left cnt) : r < w.heap.size := by
  obtain ⟨D, lf, h, _⟩ := h
  exact h.lt
theorem own_ne_range {w : World} {base : Nat} {e : TypeId} {size : Nat} {v : Value} {k : Nat} {xs : List Value} (h : w.ownsRow base e size v k xs) {mb r n : Nat} {zs : List Int} {bt : Int → Nat} {left : Int → Bool} {cnt : Nat} (hb : RangeAt w mb r n zs bt left cnt) : ¬ some r = v.ownBlock := by
  intro hv
  rcases h.2 with ⟨rfl, _⟩ | ⟨g, cap, cur, rfl, _, hg, _⟩
  · cases hv
  · simp [Value.ownBlock] at hv
    subst hv
    obtain ⟨D, lf, ⟨es, clock, since, seen, c0, _, _, _, _, hr, _⟩, _⟩ := hb
    rw [hr] at hg
    cases hg
theorem sameKey_int (z x : Int) : (Lit.int .i64 z).sameKey (.int .i64 x) = (z == x) := by
  rw [Bool.eq_iff_iff]
  simp [Lit.sameKey]
section
variable (w : World) {ops : Array Oper} {rest : List Oper} {o : Oper} {a : Act} {Q : Exit → Act → World → Prop}
theorem wpList_range_boot (hg : o.guard = none) (m : Operand) (hop : o.op = Op.range 40 m) (mb n : Nat) (zs : List Int) (bt : Int → Nat) (hm : a.eval m = .map (some mb)) (h : MapAt w mb n zs bt)
    (hK : ∀ w' cnt, RangeAt w' mb w.heap.size n zs bt (fun x => decide (x ∈ zs)) cnt → Fr (fun _ => False) w w' → wpList Tryf.prog ops Q rest (a.put o.dst (.pointer (some ⟨w.heap.size, 0, none⟩))) w') :
    wpList Tryf.prog ops Q (o :: rest) a w := by
  obtain ⟨D, hown, h2, h3⟩ := h
  refine wpList_range_own w hg m 40 hop 3 45 lawK Tryf.underlying40 ptrElem mb n D hm hown ?_
  intro w' hr hgr hsz
  refine hK w' (Maps.size D) ⟨D, Maps.has D, hr, h2, h3, h2, fun x hx => by simpa using hx⟩ ((Fr.of_grown hgr).mono (fun b _ e => by cases e))
def mkP (c : Option Nat) : Value := .pointer (c.map fun b => ⟨b, 0, none⟩)
theorem wpList_next_boot (hg : o.guard = none) (it : Operand) (hop : o.op = Op.next it false) (mb r n : Nat) (zs : List Int) (bt : Int → Nat) (left : Int → Bool) (cnt : Nat) (hit : a.eval it = .pointer (some ⟨r, 0, none⟩)) (h : RangeAt w mb r n zs bt left cnt)
    (hDone : (∀ x, left x = false) → wpList Tryf.prog ops Q rest (a.put o.dst (.tuple #[.bool false])) w)
    (hMore : ∀ (x : Int) (w' : World) (cnt' : Nat), x ∈ zs → left x = true → RangeAt w' mb r n zs bt (fun z => left z && !(z == x)) cnt' → cnt' < cnt → Fr (fun b => b = r) w w' →
      (Instr.entry (.pointer (some ⟨r, 0, none⟩))).run Tryf.prog w' = .ok (.tuple #[.int .i64 x, .pointer (some ⟨bt x, 0, none⟩)]) w' → wpList Tryf.prog ops Q rest (a.put o.dst (.tuple #[.bool true, .int .i64 x, .pointer (some ⟨bt x, 0, none⟩)])) w') :
    wpList Tryf.prog ops Q (o :: rest) a w := by
  obtain ⟨D, lf, hr, h2, h3, h4, h5⟩ := h
  refine wpList_next_ranges w hg it hop 3 lawK ptrElem (Value.int .i64) mkP (fun key kl hkey => ?_) (fun v y hv => ?_) mb r n D lf cnt hit hr ?_ ?_
  · obtain ⟨x, rfl, _⟩ := Maps.keyOf_int_inv Tryf.underlying3 hkey
    exact ⟨x, rfl⟩
  · unfold ptrElem at hv
    split at hv
    · exact ⟨some _, rfl⟩
    · exact ⟨none, rfl⟩
    · cases hv
  · intro _ hl
    exact hDone (fun x => by rw [← h4 x]; exact hl _)
  · intro x c kl y w' cnt' hkey hl hR hat hrg hlt hgr hsz hen
    obtain ⟨x', ex, rfl, hwx⟩ := Maps.keyOf_int_inv Tryf.underlying3 hkey
    cases ex
    rw [h4 x] at hl
    have hx := h5 x hl
    have hy := hat .nil
    rw [h3 x hx] at hy
    have hc : mkP c = .pointer (some ⟨bt x, 0, none⟩) := by
      obtain ⟨y1, y2⟩ := y
      simp only at hy
      rw [← hy] at hR
      exact ptrElem_inv hR
    rw [hc] at hen ⊢
    refine hMore x w' cnt' hx hl ⟨D, _, hrg, h2, h3, fun z => ?_, fun z hz => ?_⟩ hlt ((Fr.of_grown hgr).mono (fun b _ e => by cases e; rfl)) hen
    · rw [h4 z, sameKey_int]
    · exact h5 z (by simp at hz; exact hz.1)
end
end Go.Proofs.Qxb6616573aFmt
