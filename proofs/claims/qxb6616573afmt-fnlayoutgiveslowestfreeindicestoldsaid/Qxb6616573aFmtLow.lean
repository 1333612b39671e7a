/-
  PLAIN FACTS FOR FnLayoutGivesLowestFreeIndices: no Go here, but for the last: how an error of the list is read.
-/
import Derived.Test.Qxb6616573aFmtLawDense
namespace Go.Proofs.Qxb6616573aFmt
/-- the list of gaps that is still to come at index j -/
def Rest (T : Nat → Bool) (c j : Nat) (L : List Nat) : Prop :=
  ((j = 0 ∨ T (j - 1) = true) ∧ IsGaps T c j L) ∨ (0 < j ∧ T (j - 1) = false ∧ ∃ A, j ≤ A ∧ A < c ∧ T A = true ∧ (∀ i, j ≤ i → i < A → T i = false) ∧ IsGaps T c (A + 1) L)
theorem Rest.taken {T : Nat → Bool} {c j : Nat} {L : List Nat} (h : Rest T c j L) (hT : T j = true) : Rest T c (j + 1) L := by
  rcases h with ⟨_, h⟩ | ⟨_, _, A, h1, h2, h3, h4, h5⟩
  · refine Or.inl ⟨Or.inr (by simpa using hT), ?_⟩
    cases L with
    | nil => exact fun i h1 h2 => h i (by omega) h2
    | cons a L =>
      obtain ⟨s, g1, g2, g3, g4, g5, g6, g7⟩ := h
      have : s ≠ j := fun e => by rw [← e, g5 s (Nat.le_refl _) g2] at hT; cases hT
      exact ⟨s, by omega, g2, g3, fun i a b => g4 i (by omega) b, g5, g6, g7⟩
  · have e : A = j := by
      rcases Nat.lt_or_ge j A with hl | hl
      · rw [h4 j (Nat.le_refl _) hl] at hT; cases hT
      · omega
    subst e
    exact Or.inl ⟨Or.inr (by simpa using hT), h5⟩
theorem Rest.inside {T : Nat → Bool} {c j : Nat} {L : List Nat} (h : Rest T c j L) (hT : T j = false) (hj : 0 < j) (hp : T (j - 1) = false) : Rest T c (j + 1) L := by
  rcases h with ⟨h | h, _⟩ | ⟨_, _, A, h1, h2, h3, h4, h5⟩
  · omega
  · rw [hp] at h; cases h
  · have : A ≠ j := fun e => by rw [e, hT] at h3; cases h3
    exact Or.inr ⟨by omega, by simpa using hT, A, by omega, h2, h3, fun i a b => h4 i (by omega) b, h5⟩
theorem Rest.opens {T : Nat → Bool} {c j : Nat} {L : List Nat} (h : Rest T c j L) (hc : j < c) (hT : T j = false) (hp : j = 0 ∨ T (j - 1) = true) : ∃ a L3, L = a :: L3 ∧ j < a ∧ a < c ∧ T a = true ∧ (∀ i, j < i → i < a → T i = false) ∧ Rest T c (j + 1) L3 := by
  rcases h with ⟨_, h⟩ | ⟨h0, h1, _⟩
  · cases L with
    | nil => rw [h j (Nat.le_refl _) hc] at hT; cases hT
    | cons a L =>
      obtain ⟨s, g1, g2, g3, g4, g5, g6, g7⟩ := h
      have hs : s = j := by
        rcases Nat.lt_or_ge j s with hl | hl
        · rw [g4 j (Nat.le_refl _) hl] at hT; cases hT
        · omega
      subst hs
      exact ⟨a, L, rfl, g2, g3, g6, fun i h1 h2 => g5 i (by omega) h2, Or.inr ⟨by omega, by simpa using hT, a, by omega, g3, g6, fun i h1 h2 => g5 i (by omega) h2, g7⟩⟩
  · rcases hp with e | e
    · omega
    · rw [h1] at e; cases e
theorem Rest.end_ {T : Nat → Bool} {c : Nat} {L : List Nat} (h : Rest T c c L) : L = [] := by
  rcases h with ⟨_, h⟩ | ⟨_, _, A, h1, h2, _⟩
  · cases L with
    | nil => rfl
    | cons a L =>
      obtain ⟨s, g1, g2, g3, _⟩ := h
      omega
  · omega
theorem IsGaps.len {T : Nat → Bool} {c : Nat} : ∀ {i : Nat} {L : List Nat}, IsGaps T c i L → L.length ≤ c
  | i, L, h => by
    have key : ∀ (L : List Nat) (i : Nat), IsGaps T c i L → i + L.length ≤ c ∨ L = [] := by
      intro L
      induction L with
      | nil => exact fun i _ => Or.inr rfl
      | cons a L ih =>
        rintro i ⟨s, g1, g2, g3, _, _, _, g7⟩
        rcases ih (a + 1) g7 with e | e
        · left; simp; omega
        · subst e; left; simp; omega
    rcases key L i h with e | e
    · omega
    · subst e; simp
/-- two lists without repeats that hold the same, the one sorted, the other's sorting -/
theorem sorted_eq {over ov ys : List Int} (h1 : over.Pairwise (fun a b => a < b)) (h2 : ov.Nodup) (h3 : ∀ x, x ∈ over ↔ x ∈ ov) (h4 : ys.Perm ov) (h5 : Srt ys) : ys = over := by
  have hn : over.Nodup := h1.imp (fun h e => by omega)
  have hp : over.Perm ov := (List.perm_ext_iff_of_nodup hn h2).2 h3
  exact (h4.trans hp.symm).eq_of_pairwise (le := fun a b => a ≤ b) (fun a b _ _ h1 h2 => by omega) h5 (h1.imp (fun h => by omega))
theorem same_len {over ov : List Int} (h1 : over.Pairwise (fun a b => a < b)) (h2 : ov.Nodup) (h3 : ∀ x, x ∈ over ↔ x ∈ ov) : over.length = ov.length :=
  ((List.perm_ext_iff_of_nodup (h1.imp (fun h e => by omega)) h2).2 h3).length_eq
/-- the next placed index is the least that is free -/
theorem Greedy.at_ {zs : List Int} {idx : List Nat} (h : Greedy zs idx) {k nx : Nat} (hk : k < idx.length) (h1 : tk zs (idx.take k) nx = false) (h2 : ∀ i, i < nx → tk zs (idx.take k) i = true) : idx[k]? = some nx := by
  obtain ⟨a, ha⟩ : ∃ a, idx[k]? = some a := ⟨idx[k], List.getElem?_eq_getElem hk⟩
  obtain ⟨g1, g2⟩ := h k a ha
  have : a = nx := by
    rcases Nat.lt_trichotomy a nx with e | e | e
    · rw [h2 a e] at g1; cases g1
    · exact e
    · rw [g2 nx e] at h1; cases h1
  rw [← this]; exact ha
/-- an error of the list -/
structure ErrAt (w : World) (ead : Option Addr) (file : ByteArray) (j : Nat) (p : Int × Int) (g e : Nat) : Prop where
  ad : ead = some ⟨g, 0, none⟩
  row : w.cell? ⟨g, j, none⟩ = some (.pointer (some ⟨e, 0, none⟩))
  file : w.cell? ⟨e, 0, none⟩ = some (.string file)
  line : w.cell? ⟨e, 1, none⟩ = some (.int .i64 p.1)
  col : w.cell? ⟨e, 2, none⟩ = some (.int .i64 p.2)
theorem ErrList.at_ {w : World} {base : Nat} {file : ByteArray} {ead : Option Addr} {n ec : Nat} {ps : List (Int × Int)} (h : ErrList w base file (.slice ead n ec) ps) {j : Nat} {p : Int × Int} (hj : ps[j]? = some p) : ∃ g e, ErrAt w ead file j p g e := by
  obtain ⟨es, ⟨h1, h2⟩, h3, h4⟩ := h
  have hjl : j < ps.length := (List.getElem?_eq_some_iff.1 hj).1
  obtain ⟨e, he⟩ : ∃ e, es[j]? = some e := ⟨es[j], List.getElem?_eq_getElem (by omega)⟩
  obtain ⟨msg, hb⟩ := h4 j e p he hj
  rcases h2 with ⟨_, h2⟩ | ⟨g, cap, cur, hv, _, hg, hle, _, hsz, htk⟩
  · omega
  · have hv' : ead = some ⟨g, 0, none⟩ := by injection hv
    refine ⟨g, e, hv', ?_, hb.cell (i := 0) rfl, hb.cell (i := 1) rfl, hb.cell (i := 2) rfl⟩
    have hB : Blk w g 32 cur.toList := by unfold Blk; simpa using hg
    refine hB.cell ?_
    have e1 : (cur.toList.take (ps.length * 1))[j]? = some (.pointer (some ⟨e, 0, none⟩)) := by
      rw [htk]; simp [he]
    rw [List.getElem?_take] at e1
    simpa [hjl] using e1
theorem ErrList.same {w w' : World} {base : Nat} {file : ByteArray} {v : Value} {ps : List (Int × Int)} (h : ErrList w base file v ps) (hf : Fr (fun _ => False) w w') : ErrList w' base file v ps := h.fr hf (fun _ h => h.elim)
/-- an owned row of integers, read -/
theorem own_int {w : World} {base : Nat} {ad : Option Addr} {n c : Nat} {zs : List Int} (h : w.ownsRow base 3 1 (.slice ad n c) zs.length (ints zs)) {j : Nat} {z : Int} (hj : zs[j]? = some z) : ∃ g, ad = some ⟨g, 0, none⟩ ∧ w.cell? ⟨g, j, none⟩ = some (.int .i64 z) := by
  obtain ⟨h1, h2⟩ := h
  have hjl : j < zs.length := (List.getElem?_eq_some_iff.1 hj).1
  rcases h2 with ⟨_, h2⟩ | ⟨g, cap, cur, hv, _, hg, hle, _, hsz, htk⟩
  · omega
  · have hv' : ad = some ⟨g, 0, none⟩ := by injection hv
    refine ⟨g, hv', ?_⟩
    have hB : Blk w g 3 cur.toList := by unfold Blk; simpa using hg
    refine hB.cell ?_
    have e1 : (cur.toList.take (zs.length * 1))[j]? = some (.int .i64 z) := by
      rw [htk]; simp [ints, hj]
    rw [List.getElem?_take] at e1
    simpa [hjl] using e1
end Go.Proofs.Qxb6616573aFmt
