import Derived.Test.Qxb6616573aFmtClo
namespace Go.Proofs.Qxb6616573aFmt
open Go.RowKit
open Go.Extern.Stop Go.Stop Go.Extern
set_option linter.unusedVariables false
set_option linter.unusedSimpArgs false
/-- L lists, for each run of free indices from i on below c, the index just above it. -/
def IsGaps (T : Nat → Bool) (c : Nat) : Nat → List Nat → Prop
  | i, [] => ∀ j, i ≤ j → j < c → T j = true
  | i, a :: L => ∃ s, i ≤ s ∧ s < a ∧ a < c ∧ (∀ j, i ≤ j → j < s → T j = true) ∧ (∀ j, s ≤ j → j < a → T j = false) ∧ T a = true ∧ IsGaps T c (a + 1) L
theorem IsGaps.taken {T : Nat → Bool} {c i : Nat} {L : List Nat} (hT : T i = true) (h : IsGaps T c (i + 1) L) : IsGaps T c i L := by
  cases L with
  | nil =>
    intro j h1 h2
    by_cases e : j = i
    · rw [e]; exact hT
    · exact h j (by omega) h2
  | cons a L =>
    obtain ⟨s, h1, h2, h3, h4, h5, h6, h7⟩ := h
    refine ⟨s, by omega, h2, h3, fun j hj1 hj2 => ?_, h5, h6, h7⟩
    by_cases e : j = i
    · rw [e]; exact hT
    · exact h4 j (by omega) hj2
theorem IsGaps.gap {T : Nat → Bool} {c i a : Nat} {L : List Nat} (h1 : i < a) (h2 : a < c) (h3 : ∀ j, i ≤ j → j < a → T j = false) (h4 : T a = true) (h : IsGaps T c (a + 1) L) : IsGaps T c i (a :: L) :=
  ⟨i, Nat.le_refl _, h1, h2, fun j h5 h6 => by omega, h3, h4, h⟩
theorem next_taken {T : Nat → Bool} {c i : Nat} (hi : i < c) (hT : T i = false) (hc : T (c - 1) = true) : ∃ A, i < A ∧ A < c ∧ T A = true ∧ ∀ j, i ≤ j → j < A → T j = false := by
  have key : ∀ d i, c - 1 - i = d → i < c → T i = false → ∃ A, i < A ∧ A < c ∧ T A = true ∧ ∀ j, i ≤ j → j < A → T j = false := by
    intro d
    induction d with
    | zero =>
      intro i hd hi hT
      have : i = c - 1 := by omega
      rw [this, hc] at hT; cases hT
    | succ d ih =>
      intro i hd hi hT
      cases hn : T (i + 1) with
      | true => exact ⟨i + 1, by omega, by omega, hn, fun j h1 h2 => by rw [show j = i by omega]; exact hT⟩
      | false =>
        obtain ⟨A, h1, h2, h3, h4⟩ := ih (i + 1) (by omega) (by omega) hn
        refine ⟨A, by omega, h2, h3, fun j h5 h6 => ?_⟩
        by_cases e : j = i
        · rw [e]; exact hT
        · exact h4 j (by omega) h6
  exact key _ i rfl hi hT

/-- what a fixed bootstrap's block holds -/
def bootCells (x : Int) : List Value := [.pointer none, .slice none 0 0, .int .i64 0, .int .i64 0, .int .i64 x, .string ⟨#[]⟩, .bool true, .bool true, .int .i64 x, .int .i64 0]
/-- what layout's closure and loops read and nobody there writes -/
structure Env (w : World) (file : ByteArray) (fb xb tb mb n : Nat) (zs : List Int) (bt : Int → Nat) : Prop where
  file : Blk w fb 9 [.string file]
  box : Blk w xb 25 [.pointer (some ⟨tb, 0, none⟩)]
  map : MapAt w mb n zs bt
  boots : ∀ x, x ∈ zs → Blk w (bt x) 49 (bootCells x)
  field : w.cell? ⟨tb, 1, none⟩ = some (.map (some mb))
  tbl : ∃ vs, Blk w tb 44 vs
theorem Env.fr {X : Nat → Prop} {w w' : World} {file : ByteArray} {fb xb tb mb n : Nat} {zs : List Int} {bt : Int → Nat} (h : Env w file fb xb tb mb n zs bt) (hf : Fr X w w')
    (h1 : ¬ X fb) (h2 : ¬ X xb) (h3 : ¬ X mb) (h4 : ∀ x, x ∈ zs → ¬ X (bt x)) (h5 : ¬ X tb) : Env w' file fb xb tb mb n zs bt := by
  obtain ⟨vs, hvs⟩ := h.tbl
  exact ⟨h.file.fr hf h1, h.box.fr hf h2, h.map.fr hf h3, fun x hx => (h.boots x hx).fr hf (h4 x hx), by rw [hf.cell (p := ⟨tb, 1, none⟩) hvs.lt h5]; exact h.field, vs, hvs.fr hf h5⟩
theorem Env.err {w w' : World} {file : ByteArray} {fb xb tb mb n : Nat} {zs : List Int} {bt : Int → Nat} (h : Env w file fb xb tb mb n zs bt) {vb base : Nat} {v : Value} {k : Nat} {xs : List Value}
    (hv : Blk w vb 28 [v]) (hown : w.ownsRow base 32 1 v k xs) (hf : Fr (fun b => b = vb ∨ some b = v.ownBlock) w w') : Env w' file fb xb tb mb n zs bt := by
  obtain ⟨vs, hvs⟩ := h.tbl
  refine h.fr hf ?_ ?_ ?_ ?_ ?_
  · rintro (e | e); exact h.file.ne hv (by decide) e; exact own_ne hown h.file (by decide) e
  · rintro (e | e); exact h.box.ne hv (by decide) e; exact own_ne hown h.box (by decide) e
  · rintro (e | e); exact hv.ne_map h.map e; exact own_ne_map hown h.map e
  · intro x hx; rintro (e | e); exact (h.boots x hx).ne hv (by decide) e; exact own_ne hown (h.boots x hx) (by decide) e
  · rintro (e | e); exact hvs.ne hv (by decide) e; exact own_ne hown hvs (by decide) e
theorem Env.clo {w : World} {file : ByteArray} {fb xb tb mb n : Nat} {zs : List Int} {bt : Int → Nat} (h : Env w file fb xb tb mb n zs bt) {vb : Nat} {v : Value} (hv : Blk w vb 28 [v]) {x : Int} (hx : x ∈ zs) (hw : (Lit.int .i64 x).wf = true) :
    CloS file vb fb xb tb mb (bt x) v x x 0 w :=
  ⟨hv.cell rfl, h.file.cell rfl, h.box.cell rfl, h.field, (h.boots x hx).cell (i := 8) rfl, (h.boots x hx).cell (i := 9) rfl, h.map.look hx hw⟩
theorem Env.cloS {w : World} {file : ByteArray} {fb xb tb mb n : Nat} {zs : List Int} {bt : Int → Nat} (h : Env w file fb xb tb mb n zs bt) {vb base : Nat} {v : Value} {k : Nat} {xs : List Value} (hv : Blk w vb 28 [v]) (hown : w.ownsRow base 32 1 v k xs) {x : Int} (hx : x ∈ zs) (hw : (Lit.int .i64 x).wf = true) :
    ∀ W, Fr (fun b => some b = v.ownBlock) w W → CloS file vb fb xb tb mb (bt x) v x x 0 W := fun W hW =>
  (h.err hv hown (hW.mono (fun b _ e => Or.inr e))).clo (hv.fr hW (own_ne hown hv (by decide))) hx hw
theorem Space.fr {X : Nat → Prop} {w w' : World} {sb kb n : Nat} {T : Nat → Bool} {last one : Int} (h : Space w sb kb n T last one) (hf : Fr X w w') (h1 : ¬ X sb) (h2 : ¬ X kb) : Space w' sb kb n T last one :=
  ⟨h.blk.fr hf h1, Blk.fr h.row hf h2, h.ne⟩
theorem Space.err {w w' : World} {sb kb n : Nat} {T : Nat → Bool} {last one : Int} (h : Space w sb kb n T last one) {vb base : Nat} {v : Value} {k : Nat} {xs : List Value}
    (hv : Blk w vb 28 [v]) (hown : w.ownsRow base 32 1 v k xs) (hf : Fr (fun b => b = vb ∨ some b = v.ownBlock) w w') : Space w' sb kb n T last one := by
  refine h.fr hf ?_ ?_
  · rintro (e | e); exact h.blk.ne hv (by decide) e; exact own_ne hown h.blk (by decide) e
  · rintro (e | e); exact Blk.ne h.row hv (by decide) e; exact own_ne hown h.row (by decide) e

/-- The captured list: its variable, its value, what it lists. -/
structure Errs (w : World) (vb base : Nat) (file : ByteArray) (v : Value) (ps : List (Int × Int)) : Prop where
  var : Blk w vb 28 [v]
  list : ErrList w base file v ps
/-- one error more -/
theorem Errs.more {w w' : World} {vb base : Nat} {file : ByteArray} {v : Value} {ps : List (Int × Int)} (es : List Nat) (h3 : ∀ (j e : Nat) (p : Int × Int), es[j]? = some e → ps[j]? = some p → ErrBlk w e file p) (hl : es.length = ps.length) (hown : w.ownsRow base 32 1 v ps.length (es.map fun e => .pointer (some ⟨e, 0, none⟩))) (hvar : Blk w vb 28 [v])
    {g cap eb : Nat} {line col : Int} (hv' : Blk w' vb 28 [.slice (some ⟨g, 0, none⟩) (ps.length + 1) cap]) (hown' : w'.ownsRow base 32 1 (.slice (some ⟨g, 0, none⟩) (ps.length + 1) cap) (ps.length + 1) ((es.map fun e => .pointer (some ⟨e, 0, none⟩)) ++ [.pointer (some ⟨eb, 0, none⟩)]))
    (hm : ∃ msg : ByteArray, Blk w' eb 36 [.string file, .int .i64 line, .int .i64 col, .string msg, .string ⟨#[]⟩]) (hf : Fr (fun b => b = vb ∨ some b = v.ownBlock) w w') :
    Errs w' vb base file (.slice (some ⟨g, 0, none⟩) (ps.length + 1) cap) (ps ++ [(line, col)]) := by
  refine ⟨hv', es ++ [eb], ?_, by simp [hl], fun j e p he hp => ?_⟩
  · simpa using hown'
  · by_cases hj : j < es.length
    · rw [List.getElem?_append_left hj] at he
      rw [List.getElem?_append_left (by omega)] at hp
      obtain ⟨msg, hb⟩ := h3 j e p he hp
      refine ⟨msg, hb.fr hf ?_⟩
      rintro (e1 | e1)
      · exact hb.ne hvar (by decide) e1
      · exact own_ne hown hb (by decide) e1
    · rw [List.getElem?_append_right (by omega)] at he
      rw [List.getElem?_append_right (by omega)] at hp
      have hj0 : j = es.length := by
        rcases Nat.lt_or_ge (j - es.length) 1 with h | h
        · omega
        · rw [List.getElem?_eq_none (by simpa using h)] at he; cases he
      subst hj0
      simp at he
      simp [hl] at hp
      subst he
      subst hp
      exact hm
end Go.Proofs.Qxb6616573aFmt
