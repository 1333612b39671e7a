/-
  MERGE SORT FROM BELOW, in plain words: no Go here.
-/
import Derived.Test.Qxb6616573aFmtSmall
namespace Go.Proofs.Qxb6616573aFmt
def leI (a b : Int) : Bool := decide (a ≤ b)
def Srt (xs : List Int) : Prop := xs.Pairwise (fun a b => a ≤ b)
def mg (A B : List Int) : List Int := A.merge B leI
def seg (S : List Int) (a b : Nat) : List Int := (S.take b).drop a
theorem mg_sorted {A B : List Int} (hA : Srt A) (hB : Srt B) : Srt (mg A B) := by
  have := List.pairwise_merge (le := leI) (fun a b c h1 h2 => by simp [leI] at *; omega) (fun a b => by simp [leI]; omega) A B (by simpa [leI, Srt] using hA) (by simpa [leI, Srt] using hB)
  simpa [leI, Srt, mg] using this
theorem mg_perm (A B : List Int) : (mg A B).Perm (A ++ B) := List.merge_perm_append leI
theorem mg_len (A B : List Int) : (mg A B).length = A.length + B.length := List.length_merge leI A B
theorem mg_nil (B : List Int) : mg [] B = B := List.nil_merge B
theorem mg_nil_right (A : List Int) : mg A [] = A := List.merge_right A
theorem seg_len {S : List Int} {a b : Nat} (h : b ≤ S.length) : (seg S a b).length = b - a := by
  unfold seg; simp; omega
theorem seg_nil (S : List Int) (a : Nat) : seg S a a = [] := by unfold seg; simp
theorem seg_cons {S : List Int} {a b : Nat} {x : Int} (h : a < b) (hx : S[a]? = some x) : seg S a b = x :: seg S (a + 1) b := by
  unfold seg
  have h1 : (S.take b)[a]? = some x := by rw [List.getElem?_take, if_pos h]; exact hx
  obtain ⟨hlt, he⟩ := List.getElem?_eq_some_iff.1 h1
  rw [List.drop_eq_getElem_cons hlt, he]
theorem take_seg {S : List Int} {a b : Nat} (h : a ≤ b) : S.take a ++ seg S a b = S.take b := by
  unfold seg
  have : S.take a = (S.take b).take a := by rw [List.take_take, Nat.min_eq_left h]
  rw [this, List.take_append_drop]
inductive Runs (w : Nat) : List Int → Prop
  | last (xs : List Int) : xs.length ≤ w → Srt xs → Runs w xs
  | cons (a r : List Int) : a.length = w → Srt a → Runs w r → Runs w (a ++ r)
theorem Runs.take {w : Nat} {xs : List Int} (h : Runs w xs) : Srt (xs.take w) ∧ Runs w (xs.drop w) := by
  cases h with
  | last _ h1 h2 => rw [List.take_of_length_le h1, List.drop_eq_nil_of_le h1]; exact ⟨h2, .last _ (by simp) List.Pairwise.nil⟩
  | cons a r h1 h2 h3 => rw [List.take_left' h1, List.drop_left' h1]; exact ⟨h2, h3⟩
theorem Runs.sorted {w : Nat} {xs : List Int} (h : Runs w xs) (hl : xs.length ≤ w) : Srt xs := by
  have := h.take.1
  rwa [List.take_of_length_le hl] at this
theorem Runs.one : ∀ zs : List Int, Runs 1 zs
  | [] => .last _ (by simp) List.Pairwise.nil
  | a :: zs => .cons [a] zs rfl (List.pairwise_singleton _ _) (Runs.one zs)
/-- within one pass: what stands below lo is merged -/
def Passed (w : Nat) (S D : List Int) (lo : Nat) : Prop :=
  (lo ≤ S.length ∧ (∀ r, Runs (2 * w) r → Runs (2 * w) (D.take lo ++ r)) ∧ (D.take lo).Perm (S.take lo) ∧ Runs w (S.drop lo)) ∨ (S.length ≤ lo ∧ Runs (2 * w) D ∧ D.Perm S)
theorem Passed.start {w : Nat} {S D : List Int} (h : Runs w S) : Passed w S D 0 := Or.inl ⟨Nat.zero_le _, fun r hr => by simpa using hr, by simp, by simpa using h⟩
theorem Passed.done {w : Nat} {S D : List Int} {lo : Nat} (h : Passed w S D lo) (hD : D.length = S.length) (hlo : S.length ≤ lo) : Runs (2 * w) D ∧ D.Perm S := by
  rcases h with ⟨h1, h2, h3, h4⟩ | ⟨_, h2, h3⟩
  · have e : lo = S.length := by omega
    subst e
    rw [List.take_of_length_le (by omega), List.take_of_length_le (Nat.le_refl _)] at h3
    have := h2 [] (.last _ (by simp) List.Pairwise.nil)
    rw [List.append_nil, List.take_of_length_le (by omega)] at this
    exact ⟨this, h3⟩
  · exact ⟨h2, h3⟩
theorem Passed.next {w : Nat} {S D0 D : List Int} {lo mid hi : Nat} (h : Passed w S D0 lo) (hlo : lo < S.length) (hD : D.length = S.length) (hmid : mid = min (lo + w) S.length) (hhi : hi = min (lo + 2 * w) S.length)
    (he : D.take hi = D0.take lo ++ mg (seg S lo mid) (seg S mid hi)) : Passed w S D (lo + 2 * w) := by
  rcases h with ⟨h1, h2, h3, h4⟩ | ⟨h1, _, _⟩
  · have hA : Srt (seg S lo mid) := by
      have := h4.take.1
      have e : (S.drop lo).take w = seg S lo mid := by
        unfold seg
        rw [List.take_drop]
        by_cases hw : lo + w ≤ S.length
        · rw [show mid = w + lo by omega, Nat.add_comm]
        · rw [List.take_of_length_le (show S.length ≤ lo + w by omega), List.take_of_length_le (show S.length ≤ mid by omega)]
      rwa [e] at this
    have h5 : Runs w (S.drop (lo + w)) := by
      have := h4.take.2
      rwa [List.drop_drop] at this
    have hB : Srt (seg S mid hi) := by
      by_cases hw : lo + w ≤ S.length
      · have := h5.take.1
        have e : (S.drop (lo + w)).take w = seg S mid hi := by
          unfold seg
          rw [List.take_drop]
          rw [show mid = lo + w by omega]
          by_cases hw2 : lo + 2 * w ≤ S.length
          · rw [show hi = lo + w + w by omega]
          · rw [List.take_of_length_le (show S.length ≤ lo + w + w by omega), List.take_of_length_le (show S.length ≤ hi by omega)]
        rwa [e] at this
      · have e : seg S mid hi = [] := by rw [show mid = hi by omega]; exact seg_nil _ _
        rw [e]; exact List.Pairwise.nil
    have hM := mg_sorted hA hB
    have hMl : (mg (seg S lo mid) (seg S mid hi)).length = hi - lo := by rw [mg_len, seg_len (by omega), seg_len (by omega)]; omega
    have hp : (D.take hi).Perm (S.take hi) := by
      rw [he, ← take_seg (S := S) (show mid ≤ hi by omega), ← take_seg (S := S) (show lo ≤ mid by omega), List.append_assoc]
      exact h3.append (mg_perm _ _)
    by_cases hw : lo + 2 * w ≤ S.length
    · have e : hi = lo + 2 * w := by omega
      subst e
      refine Or.inl ⟨hw, fun r hr => ?_, hp, ?_⟩
      · rw [he, List.append_assoc]
        exact h2 _ (.cons _ _ (by omega) hM hr)
      · have := h5.take.2
        rw [List.drop_drop] at this
        rwa [show lo + w + w = lo + 2 * w by omega] at this
    · have e : hi = S.length := by omega
      subst e
      rw [List.take_of_length_le (by omega)] at he hp
      rw [List.take_of_length_le (Nat.le_refl _)] at hp
      refine Or.inr ⟨by omega, ?_, hp⟩
      rw [he]
      exact h2 _ (.last _ (by omega) hM)
  · omega
/-- within one merge -/
structure Merging (S D0 D : List Int) (lo mid hi i j k : Nat) : Prop where
  len : D.length = S.length
  li : lo ≤ i
  im : i ≤ mid
  mj : mid ≤ j
  jh : j ≤ hi
  hn : hi ≤ S.length
  at_ : k + mid = i + j
  eq : D.take k ++ mg (seg S i mid) (seg S j hi) = D0.take lo ++ mg (seg S lo mid) (seg S mid hi)
theorem take_set (D : List Int) {k : Nat} (h : k < D.length) (x : Int) : (D.set k x).take (k + 1) = D.take k ++ [x] := by
  rw [List.take_add_one, List.take_set_of_le (Nat.le_refl _), List.getElem?_set_self h]; rfl
theorem Merging.left {S D0 D : List Int} {lo mid hi i j k : Nat} (h : Merging S D0 D lo mid hi i j k) {x : Int} (hx : S[i]? = some x) (hi' : i < mid) (hc : hi ≤ j ∨ ∃ y, S[j]? = some y ∧ x ≤ y) : Merging S D0 (D.set k x) lo mid hi (i + 1) j (k + 1) := by
  obtain ⟨h1, h2, h3, h4, h5, h6, h7, h8⟩ := h
  refine ⟨by simpa using h1, by omega, by omega, h4, h5, h6, by omega, ?_⟩
  rw [take_set D (by omega), ← h8, List.append_assoc]
  congr 1
  rw [seg_cons hi' hx]
  by_cases e : j = hi
  · subst e
    rw [seg_nil, mg_nil_right, mg_nil_right]; rfl
  · rcases hc with hc | ⟨y, hy, hc⟩
    · omega
    · rw [seg_cons (show j < hi by omega) hy]
      unfold mg
      rw [List.cons_merge_cons, if_pos (by simp [leI, hc])]; rfl
theorem Merging.right {S D0 D : List Int} {lo mid hi i j k : Nat} (h : Merging S D0 D lo mid hi i j k) {y : Int} (hy : S[j]? = some y) (hj' : j < hi) (hc : mid ≤ i ∨ ∃ x, S[i]? = some x ∧ ¬ x ≤ y) : Merging S D0 (D.set k y) lo mid hi i (j + 1) (k + 1) := by
  obtain ⟨h1, h2, h3, h4, h5, h6, h7, h8⟩ := h
  refine ⟨by simpa using h1, h2, h3, by omega, by omega, h6, by omega, ?_⟩
  rw [take_set D (by omega), ← h8, List.append_assoc]
  congr 1
  rw [seg_cons hj' hy]
  by_cases e : i = mid
  · subst e
    rw [seg_nil, mg_nil, mg_nil]; rfl
  · rcases hc with hc | ⟨x, hx, hc⟩
    · omega
    · rw [seg_cons (show i < mid by omega) hx]
      unfold mg
      rw [List.cons_merge_cons, if_neg (by simp [leI]; omega)]; rfl
theorem Merging.done {S D0 D : List Int} {lo mid hi i j k : Nat} (h : Merging S D0 D lo mid hi i j k) (hk : hi ≤ k) : D.take hi = D0.take lo ++ mg (seg S lo mid) (seg S mid hi) := by
  obtain ⟨h1, h2, h3, h4, h5, h6, h7, h8⟩ := h
  have e1 : i = mid := by omega
  have e2 : j = hi := by omega
  have e3 : k = hi := by omega
  subst e1; subst e2; subst e3
  rw [seg_nil, seg_nil, mg_nil, List.append_nil] at h8
  exact h8
end Go.Proofs.Qxb6616573aFmt
