/-
  WHAT layout COMES TO, in plain words: no Go here.
-/
import Derived.Test.Qxb6616573aFmtEnv
namespace Go.Proofs.Qxb6616573aFmt

/-- is index j fixed by the source? -/
def fixB (zs : List Int) (j : Nat) : Bool := decide ((j : Int) ∈ zs)
/-- is it taken, the first placed ones at idx? -/
def tk (zs : List Int) (idx : List Nat) (j : Nat) : Bool := fixB zs j || decide (j ∈ idx)
/-- each placed method has taken the least index that was free -/
def Greedy (zs : List Int) (idx : List Nat) : Prop := ∀ k a, idx[k]? = some a → tk zs (idx.take k) a = false ∧ ∀ i, i < a → tk zs (idx.take k) i = true

theorem tk_snoc (zs : List Int) (idx : List Nat) (f j : Nat) : tk zs (idx ++ [f]) j = (if j = f then true else tk zs idx j) := by
  unfold tk
  by_cases h : j = f <;> simp [h]
theorem tk_mono {zs : List Int} {idx : List Nat} {k j : Nat} (h : tk zs (idx.take k) j = true) : tk zs idx j = true := by
  unfold tk at *
  simp only [Bool.or_eq_true, decide_eq_true_eq] at *
  rcases h with h | h
  · exact Or.inl h
  · exact Or.inr (List.mem_of_mem_take h)
theorem Greedy.snoc {zs : List Int} {idx : List Nat} (h : Greedy zs idx) {f : Nat} (h1 : tk zs idx f = false) (h2 : ∀ i, i < f → tk zs idx i = true) : Greedy zs (idx ++ [f]) := by
  intro k a hk
  by_cases hlt : k < idx.length
  · rw [List.getElem?_append_left hlt] at hk
    rw [List.take_append_of_le_length (by omega)]
    exact h k a hk
  · rw [List.getElem?_append_right (by omega)] at hk
    have hk0 : k = idx.length := by
      rcases Nat.lt_or_ge (k - idx.length) 1 with h | h
      · omega
      · rw [List.getElem?_eq_none (by simpa using h)] at hk; cases hk
    subst hk0
    simp at hk
    subst hk
    rw [List.take_append_of_le_length (Nat.le_refl _), List.take_length]
    exact ⟨h1, h2⟩
theorem Greedy.nil (zs : List Int) : Greedy zs [] := fun k a h => by simp at h
/-- below a placed index nothing is free -/
theorem Greedy.below {zs : List Int} {idx : List Nat} (h : Greedy zs idx) {a i : Nat} (ha : a ∈ idx) (hi : i < a) : tk zs idx i = true := by
  obtain ⟨k, hk⟩ := List.getElem?_of_mem ha
  exact tk_mono ((h k a hk).2 i hi)
theorem Greedy.nodup {zs : List Int} : ∀ {idx : List Nat}, Greedy zs idx → idx.Nodup := by
  intro idx h
  unfold List.Nodup
  rw [List.pairwise_iff_getElem]
  intro i j hi hj hij he
  obtain ⟨h1, _⟩ := h j idx[j] (List.getElem?_eq_getElem hj)
  have hm : idx[j] ∈ idx.take j := by
    rw [← he]
    exact List.mem_take_iff_getElem.2 ⟨i, by omega, rfl⟩
  unfold tk at h1
  simp [hm] at h1

/-- A list without repeats that lies within another is no longer than it. -/
theorem nodup_le {α : Type} [DecidableEq α] : ∀ (l m : List α), l.Nodup → (∀ x, x ∈ l → x ∈ m) → l.length ≤ m.length
  | [], _, _, _ => by simp
  | a :: l, m, hn, hs => by
    obtain ⟨h1, h2⟩ := List.nodup_cons.1 hn
    have ha : a ∈ m := hs a (by simp)
    have := nodup_le l (m.erase a) h2 (fun x hx => by
      have hne : x ≠ a := fun e => h1 (e ▸ hx)
      exact (List.mem_erase_of_ne hne).2 (hs x (by simp [hx])))
    rw [List.length_erase_of_mem ha] at this
    have : 0 < m.length := List.length_pos_of_mem ha
    simp
    omega

/-- the greatest fixed index that a table can hold, or -1 -/
structure IsLimit (zs : List Int) (lim : Int) : Prop where
  lo : -1 ≤ lim
  hi : lim ≤ 65534
  mem : lim = -1 ∨ lim ∈ zs
  max : ∀ x, x ∈ zs → x ≤ 65534 → x ≤ lim

/-- Nothing is free up to the space's limit while fewer than p are placed: so the limit is the table's own last index. -/
theorem full_limit {zs : List Int} {lim : Int} (hl : IsLimit zs lim) {idx : List Nat} {p : Nat} (hp : idx.length < p)
    (hfull : ∀ j : Nat, (j : Int) ≤ min (lim + p) 65534 → tk zs idx j = true) : 65534 ≤ lim + p := by
  rcases Int.lt_or_le (lim + p) 65534 with h | h
  · exfalso
    have h0 := hl.lo
    have key := nodup_le ((List.range p).map fun k => (lim + 1).toNat + k) idx (by
      unfold List.Nodup
      rw [List.pairwise_map]
      exact (List.nodup_range (n := p)).imp (fun h e => h (by omega))) (fun x hx => by
      simp only [List.mem_map, List.mem_range] at hx
      obtain ⟨k, hk, rfl⟩ := hx
      have ht := hfull ((lim + 1).toNat + k) (by omega)
      unfold tk at ht
      simp only [Bool.or_eq_true, decide_eq_true_eq, fixB] at ht
      rcases ht with ht | ht
      · have := hl.max _ ht (by omega)
        omega
      · exact ht)
    simp at key
    omega
  · exact h

/-- WHAT layout LEAVES: idx: the indices given, in order; cnt: the count; ps: the errors' places. -/
structure LayoutSpec (zs : List Int) (p : Nat) (idx : List Nat) (cnt : Int) (ps : List (Int × Int)) : Prop where
  greedy : Greedy zs idx
  small : ∀ a, a ∈ idx → a ≤ 65534
  rest : ∃ ov : List Int, ov.Nodup ∧ (∀ x, x ∈ ov ↔ (x ∈ zs ∧ 65534 < x)) ∧
    ((idx.length = p ∧ ∃ (c : Nat) (L : List Nat), cnt = (c : Int) ∧ c ≤ 65535 ∧ (∀ j : Nat, c ≤ j → j ≤ 65534 → tk zs idx j = false) ∧ (c = 0 ∨ tk zs idx (c - 1) = true) ∧ IsGaps (tk zs idx) c 0 L ∧ ps = (ov.map fun x => (x, (0 : Int))) ++ L.map fun (a : Nat) => ((a : Int), (0 : Int))) ∨
     (idx.length < p ∧ (∀ j : Nat, j ≤ 65534 → tk zs idx j = true) ∧ cnt = 0 ∧ ps = (ov.map fun x => (x, (0 : Int))) ++ [((-1 : Int), (idx.length : Int) + 1)]))
end Go.Proofs.Qxb6616573aFmt
