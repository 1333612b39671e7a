/-
  THE PLAIN LAW OF FnLayoutErrorFreeExactlyWhenDense: no Go here.
-/
import Derived.Test.Qxb6616573aFmtSplit
namespace Go.Proofs.Qxb6616573aFmt
def cn (f : Nat → Bool) : Nat → Nat
  | 0 => 0
  | n + 1 => cn f n + (if f n = true then 1 else 0)
theorem cn_congr {f g : Nat → Bool} : ∀ {n : Nat}, (∀ j, j < n → f j = g j) → cn f n = cn g n
  | 0, _ => rfl
  | n + 1, h => by unfold cn; rw [cn_congr (n := n) (fun j hj => h j (by omega)), h n (by omega)]
theorem cn_le (f : Nat → Bool) : ∀ n, cn f n ≤ n
  | 0 => Nat.le_refl _
  | n + 1 => by unfold cn; have := cn_le f n; split <;> omega
theorem cn_full {f : Nat → Bool} : ∀ {n : Nat}, (∀ j, j < n → f j = true) → cn f n = n
  | 0, _ => rfl
  | n + 1, h => by unfold cn; rw [cn_full (n := n) (fun j hj => h j (by omega)), if_pos (h n (by omega))]
theorem cn_lt {f : Nat → Bool} {s : Nat} (hs : f s = false) : ∀ {n : Nat}, s < n → cn f n < n
  | 0, h => by omega
  | n + 1, h => by
    unfold cn
    by_cases e : s = n
    · subst e
      rw [hs]; have := cn_le f s; simp; omega
    · have := cn_lt hs (n := n) (by omega)
      split <;> omega
theorem cn_cut {f : Nat → Bool} {c : Nat} : ∀ {n : Nat}, c ≤ n → (∀ j, c ≤ j → j < n → f j = false) → cn f n = cn f c
  | 0, h, _ => by rw [show c = 0 by omega]
  | n + 1, h, hf => by
    by_cases e : c = n + 1
    · rw [e]
    · rw [← cn_cut (n := n) (by omega) (fun j h1 h2 => hf j h1 (by omega))]
      show cn f n + _ = _
      rw [hf n (by omega) (by omega)]; simp
theorem cn_put {f : Nat → Bool} {s : Nat} (hs : f s = false) : ∀ {n : Nat}, s < n → cn (fun j => if j = s then true else f j) n = cn f n + 1
  | 0, h => by omega
  | n + 1, h => by
    unfold cn
    by_cases e : s = n
    · subst e
      rw [cn_congr (f := fun j => if j = s then true else f j) (g := f) (fun j hj => by rw [if_neg (by omega)]), hs]; simp
    · rw [cn_put hs (n := n) (by omega), if_neg (show ¬ n = s by omega)]; omega
theorem cn_zero (f : Nat → Bool) : cn f 0 = 0 := rfl
theorem cn_put1 {f : Nat → Bool} {n : Nat} (h : f n = true) : cn f (n + 1) = cn f n + 1 := by show cn f n + _ = _; rw [if_pos h]
theorem cn_skip1 {f : Nat → Bool} {n : Nat} (h : f n = false) : cn f (n + 1) = cn f n := by show cn f n + _ = _; rw [h]; rfl
attribute [irreducible] cn
theorem take_next' {idx : List Nat} {k a : Nat} (h : idx[k]? = some a) : idx.take (k + 1) = idx.take k ++ [a] := by rw [List.take_add_one, h]; rfl
/-- the placed ones are counted once each -/
theorem cn_tk {zs : List Int} {idx : List Nat} (hg : Greedy zs idx) (hs : ∀ a, a ∈ idx → a ≤ 65534) : ∀ k, k ≤ idx.length → cn (tk zs (idx.take k)) 65535 = cn (fixB zs) 65535 + k
  | 0, _ => by rw [List.take_zero, Nat.add_zero]; exact cn_congr (fun j _ => by simp [tk])
  | k + 1, h => by
    obtain ⟨a, ha⟩ : ∃ a, idx[k]? = some a := ⟨idx[k], List.getElem?_eq_getElem (by omega)⟩
    have h1 := (hg k a ha).1
    have h2 := hs a (List.mem_of_getElem? ha)
    rw [take_next' ha, cn_congr (fun j _ => tk_snoc zs (idx.take k) a j), cn_put h1 (by omega), cn_tk hg hs k (by omega)]
    omega
structure IsMax (f : Nat → Bool) (n : Nat) (M : Int) : Prop where
  lo : -1 ≤ M
  hi : M < n
  top : ∀ j : Nat, j < n → f j = true → (j : Int) ≤ M
  at_ : M = -1 ∨ f M.toNat = true
theorem IsMax.zero (f : Nat → Bool) : IsMax f 0 (-1) := ⟨by omega, by omega, fun j h => by omega, Or.inl rfl⟩
theorem IsMax.skip {f : Nat → Bool} {n : Nat} {M : Int} (h : IsMax f n M) (hf : f n = false) : IsMax f (n + 1) M :=
  ⟨h.lo, by have := h.hi; omega, fun j hj ht => by
    by_cases e : j = n
    · subst e; rw [hf] at ht; cases ht
    · exact h.top j (by omega) ht, h.at_⟩
theorem IsMax.put {f : Nat → Bool} {n : Nat} (hf : f n = true) : IsMax f (n + 1) n :=
  ⟨by omega, by omega, fun j hj ht => by omega, Or.inr (by simpa using hf)⟩
/-- dense, as the law reckons it -/
def Dense (nF p : Nat) (M : Int) (over : List Int) : Prop := over = [] ∧ nF + p ≤ 65535 ∧ M + 1 ≤ (nF : Int) + p
structure DenseOut (zs : List Int) (p : Nat) (idx : List Nat) (cnt : Int) : Prop where
  len : idx.length = p
  sum : cnt = (cn (fixB zs) 65535 : Int) + p
  small : cnt ≤ 65535
  all : ∀ j : Nat, (j : Int) < cnt → tk zs idx j = true
  gone : ∀ j : Nat, cnt ≤ (j : Int) → j ≤ 65534 → tk zs idx j = false
theorem dense_iff {zs : List Int} {p : Nat} {idx : List Nat} {cnt : Int} {ps : List (Int × Int)} (h : LayoutSpec zs p idx cnt ps) {M : Int} (hM : IsMax (fixB zs) 65535 M) {over : List Int} (ho : ∀ x, x ∈ over ↔ (x ∈ zs ∧ 65534 < x)) :
    (ps = [] → Dense (cn (fixB zs) 65535) p M over ∧ DenseOut zs p idx cnt) ∧ (Dense (cn (fixB zs) 65535) p M over → ps = []) := by
  obtain ⟨hg, hsm, ov, hnd, hov, hc⟩ := h
  have hcn := cn_tk hg hsm idx.length (Nat.le_refl _)
  rw [List.take_length] at hcn
  have hoo : over = [] ↔ ov = [] := by
    constructor
    · intro e
      refine List.eq_nil_iff_forall_not_mem.2 (fun x hx => ?_)
      have := (ho x).2 ((hov x).1 hx)
      rw [e] at this; cases this
    · intro e
      refine List.eq_nil_iff_forall_not_mem.2 (fun x hx => ?_)
      have := (hov x).2 ((ho x).1 hx)
      rw [e] at this; cases this
  have hfix : ∀ j, fixB zs j = true → tk zs idx j = true := fun j hj => by unfold tk; rw [hj]; rfl
  rcases hc with ⟨hl, c, L, rfl, hc5, hgone, hcl, hgaps, rfl⟩ | ⟨hl, hfull, rfl, rfl⟩
  · have hcut : cn (tk zs idx) 65535 = cn (tk zs idx) c := cn_cut (by omega) (fun j h1 h2 => hgone j h1 (by omega))
    constructor
    · intro e
      simp at e
      obtain ⟨e1, e2⟩ := e
      subst e2
      have hall : ∀ j, j < c → tk zs idx j = true := fun j hj => hgaps j (Nat.zero_le _) hj
      have hcc := cn_full hall
      refine ⟨⟨hoo.2 e1, by omega, ?_⟩, ⟨hl, by omega, by omega, fun j hj => hall j (by omega), fun j h1 h2 => hgone j (by omega) h2⟩⟩
      rcases hM.at_ with e | e
      · omega
      · have h1 := hM.lo
        have h2 := hM.hi
        have h3 := hfix _ e
        rcases Nat.lt_or_ge M.toNat c with h4 | h4
        · omega
        · rw [hgone _ h4 (by omega)] at h3; cases h3
    · rintro ⟨d1, d2, d3⟩
      rw [hoo] at d1
      subst d1
      cases L with
      | nil => rfl
      | cons a L =>
        exfalso
        obtain ⟨s, g1, g2, g3, g4, g5, g6, g7⟩ := hgaps
        have hs := g5 s (Nat.le_refl _) g2
        have hlt := cn_lt hs (n := c) (by omega)
        have hc1 : tk zs idx (c - 1) = true := by
          rcases hcl with e | e
          · omega
          · exact e
        have hc2 : fixB zs (c - 1) = true := by
          have hm : fixB zs (c - 1) = true ∨ (c - 1) ∈ idx := by
            have hc1' := hc1
            unfold tk at hc1'
            rw [Bool.or_eq_true, decide_eq_true_eq] at hc1'
            exact hc1'
          rcases hm with hm | hm
          · exact hm
          · rw [hg.below hm (show s < c - 1 by omega)] at hs; cases hs
        have := hM.top (c - 1) (by omega) hc2
        omega
  · constructor
    · intro e; simp at e
    · rintro ⟨d1, d2, d3⟩
      exfalso
      have := cn_full (f := tk zs idx) (n := 65535) (fun j hj => hfull j (by omega))
      omega
end Go.Proofs.Qxb6616573aFmt
