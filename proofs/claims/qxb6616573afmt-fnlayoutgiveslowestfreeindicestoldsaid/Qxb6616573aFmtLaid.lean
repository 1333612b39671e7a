import Derived.Test.Qxb6616573aFmtSt
namespace Go.Proofs.Qxb6616573aFmt
open Go.RowKit
open Go.Extern.Stop Go.Stop Go.Extern
set_option linter.unusedVariables false
set_option linter.unusedSimpArgs false
/-- the indices given so far, as the blocks hold them -/
def ixOf (idx : List Nat) (k : Nat) : Int := ((idx[k]?.getD 0 : Nat) : Int)
theorem ixOf_snoc (idx : List Nat) (f : Nat) : (fun j => if j = idx.length then (f : Int) else ixOf idx j) = ixOf (idx ++ [f]) := by
  funext j
  unfold ixOf
  by_cases h : j = idx.length
  · subst h; simp
  · rw [if_neg h]
    by_cases h2 : j < idx.length
    · rw [List.getElem?_append_left h2]
    · rw [List.getElem?_append_right (by omega), List.getElem?_eq_none (by omega), List.getElem?_eq_none (by simp; omega)]
/-- the third loop's state: the first idx.length are placed -/
structure Laid (zs : List Int) (idx : List Nat) (T : Nat → Bool) (last : Int) (o m : Nat) : Prop where
  greedy : Greedy zs idx
  small : ∀ a, a ∈ idx → a ≤ 65534
  is : ∀ j : Nat, j ≤ 65534 → T j = tk zs idx j
  past : ∀ j : Nat, 65534 < j → T j = false
  lo : -1 ≤ last
  hi : last ≤ 65534
  top : ∀ j : Nat, T j = true → (j : Int) ≤ last
  at_ : last = -1 ∨ T last.toNat = true
  full : ∀ j, j < o → T j = true
  om : o < m
  lm : last + 1 < (m : Int)
theorem Laid.start {zs : List Int} {T : Nat → Bool} {last : Int} {m : Nat} (hT : ∀ j : Nat, T j = (decide ((j : Int) ∈ zs) && decide ((j : Int) ≤ 65534))) (hl : -1 ≤ last ∧ last ≤ 65534 ∧ (∀ j : Nat, T j = true → (j : Int) ≤ last) ∧ (last = -1 ∨ T last.toNat = true)) (hm : 0 < m) (hlm : last + 1 < (m : Int)) : Laid zs [] T last 0 m :=
  ⟨Greedy.nil zs, fun a h => (by cases h), fun j hj => (by rw [hT j]; have : (j : Int) ≤ 65534 := (by omega); simp [tk, fixB, this]), fun j hj => (by rw [hT j]; have : ¬ (j : Int) ≤ 65534 := (by omega); simp [this]), hl.1, hl.2.1, hl.2.2.1, hl.2.2.2, fun j hj => (by omega), hm, hlm⟩
theorem Laid.put {zs : List Int} {idx : List Nat} {T : Nat → Bool} {last : Int} {o m f : Nat} (h : Laid zs idx T last o m) (hf : Free T m o f) (hm : m ≤ 65536) (hfm : f + 1 < m) : Laid zs (idx ++ [f]) (fun j => if j = f then true else T j) (max last f) f m := by
  have hff := hf.free hfm
  have hbel : ∀ i, i < f → T i = true := fun i hi => by
    by_cases hio : i < o
    · exact h.full i hio
    · exact hf.full i (by omega) hi
  refine ⟨h.greedy.snoc (by rw [← h.is f (by omega)]; exact hff) (fun i hi => by rw [← h.is i (by omega)]; exact hbel i hi), fun a ha => ?_, fun j hj => ?_, fun j hj => ?_, by have := h.lo; omega, by have := h.hi; omega, fun j hj => ?_, Or.inr ?_, fun j hj => ?_, by omega, by have := h.lm; omega⟩
  · rw [List.mem_append] at ha
    rcases ha with ha | ha
    · exact h.small a ha
    · simp at ha; omega
  · rw [tk_snoc, h.is j hj]
  · rw [if_neg (by omega)]; exact h.past j hj
  · by_cases e : j = f
    · omega
    · simp only [if_neg e] at hj
      have := h.top j hj
      omega
  · by_cases e : last ≤ (f : Int)
    · have : (max last (f : Int)).toNat = f := by omega
      simp [this]
    · have e2 : (max last (f : Int)) = last := by omega
      rw [e2]
      rcases h.at_ with h1 | h1
      · omega
      · have : ¬ last.toNat = f := by omega
        simp [this, h1]
  · have : ¬ j = f := by omega
    rw [if_neg this]; exact hbel j hj
theorem free_of (T : Nat → Bool) (m : Nat) : ∀ d o, m - 1 - o = d → o < m → ∃ f, Free T m o f
  | 0, o, hd, ho => ⟨o, Nat.le_refl _, ho, fun j h1 h2 => (by omega), fun h => (by omega)⟩
  | d + 1, o, hd, ho => by
    cases hT : T o with
    | false => exact ⟨o, Nat.le_refl _, ho, fun j h1 h2 => (by omega), fun _ => hT⟩
    | true =>
      obtain ⟨f, h1, h2, h3, h4⟩ := free_of T m d (o + 1) (by omega) (by omega)
      refine ⟨f, by omega, h2, fun j h5 h6 => ?_, h4⟩
      by_cases e : j = o
      · rw [e]; exact hT
      · exact h3 j (by omega) h6
theorem Laid.none {zs : List Int} {idx : List Nat} {T : Nat → Bool} {last lim : Int} {o m f p : Nat} (h : Laid zs idx T last o m) (hl : IsLimit zs lim) (hf : Free T m o f) (hm : (m : Int) = min (lim + p) 65534 + 2) (hfm : m ≤ f + 1) (hp : idx.length < p) : ∀ j : Nat, j ≤ 65534 → tk zs idx j = true := by
  have hlt := hf.lt
  have hbel : ∀ i, i < f → T i = true := fun i hi => by
    by_cases hio : i < o
    · exact h.full i hio
    · exact hf.full i (by omega) hi
  have := full_limit hl hp (fun j hj => by rw [← h.is j (by omega)]; exact hbel j (by omega))
  intro j hj
  rw [← h.is j hj]; exact hbel j (by omega)
theorem IsGaps.congr {T T' : Nat → Bool} {c : Nat} (h : ∀ j, j < c → T j = T' j) : ∀ {i : Nat} {L : List Nat}, IsGaps T c i L → IsGaps T' c i L
  | i, [], hg => fun j h1 h2 => (by rw [← h j h2]; exact hg j h1 h2)
  | i, a :: L, ⟨s, h1, h2, h3, h4, h5, h6, h7⟩ => ⟨s, h1, h2, h3, fun j a b => (by rw [← h j (by omega)]; exact h4 j a b), fun j a b => (by rw [← h j (by omega)]; exact h5 j a b), (by rw [← h a h3]; exact h6), IsGaps.congr h h7⟩
theorem Laid.gap {zs : List Int} {idx : List Nat} {T : Nat → Bool} {last : Int} {o m c : Nat} (h : Laid zs idx T last o m) (hc : last = (c : Int) - 1) : ∀ i a, i < a → a < c → T i = false → T a = true → (a : Int) ∈ zs := by
  intro i a hia hac hi ha
  have hh := h.hi
  rw [h.is a (by omega)] at ha
  rw [h.is i (by omega)] at hi
  have hm : fixB zs a = true ∨ a ∈ idx := by
    unfold tk at ha
    rw [Bool.or_eq_true, decide_eq_true_eq] at ha
    exact ha
  rcases hm with hm | hm
  · simpa [fixB] using hm
  · rw [h.greedy.below hm hia] at hi; cases hi
theorem Laid.done {zs : List Int} {idx : List Nat} {T : Nat → Bool} {last : Int} {o m c p : Nat} (h : Laid zs idx T last o m) (hc : last = (c : Int) - 1) (hp : idx.length = p) {ov : List Int} (hov : ov.Nodup ∧ (∀ x, x ∈ ov ↔ (x ∈ zs ∧ 65534 < x))) {L : List Nat} (hL : IsGaps T c 0 L) :
    LayoutSpec zs p idx (c : Int) ((ov.map fun x => (x, (0 : Int))) ++ gapPs L) := by
  have hh := h.hi
  refine ⟨h.greedy, h.small, ov, hov.1, hov.2, Or.inl ⟨hp, c, L, rfl, by omega, fun j h1 h2 => ?_, ?_, hL.congr (fun j hj => h.is j (by omega)), rfl⟩⟩
  · rw [← h.is j h2]
    cases e : T j with
    | false => rfl
    | true => have := h.top j e; omega
  · by_cases h0 : c = 0
    · exact Or.inl h0
    · refine Or.inr ?_
      rw [← h.is (c - 1) (by omega)]
      rcases h.at_ with e | e
      · omega
      · rw [show last.toNat = c - 1 by omega] at e; exact e
theorem Laid.atc {zs : List Int} {idx : List Nat} {T : Nat → Bool} {last : Int} {o m c : Nat} (h : Laid zs idx T last o m) (hc : last = (c : Int) - 1) : c = 0 ∨ T (c - 1) = true := by
  rcases h.at_ with e | e
  · left; omega
  · by_cases h0 : c = 0
    · exact Or.inl h0
    · right; rw [show last.toNat = c - 1 by omega] at e; exact e
theorem ErrList.more {w w' : World} {base : Nat} {file : ByteArray} {v : Value} {ps : List (Int × Int)} (es : List Nat) (h3 : ∀ (j e : Nat) (p : Int × Int), es[j]? = some e → ps[j]? = some p → ErrBlk w e file p) (hl : es.length = ps.length) (hown : w.ownsRow base 32 1 v ps.length (es.map fun e => .pointer (some ⟨e, 0, none⟩)))
    {g cap eb : Nat} {line col : Int} (hown' : w'.ownsRow base 32 1 (.slice (some ⟨g, 0, none⟩) (ps.length + 1) cap) (ps.length + 1) ((es.map fun e => .pointer (some ⟨e, 0, none⟩)) ++ [.pointer (some ⟨eb, 0, none⟩)]))
    (hm : ∃ msg : ByteArray, Blk w' eb 36 [.string file, .int .i64 line, .int .i64 col, .string msg, .string ⟨#[]⟩]) (hf : Fr (fun b => some b = v.ownBlock) w w') :
    ErrList w' base file (.slice (some ⟨g, 0, none⟩) (ps.length + 1) cap) (ps ++ [(line, col)]) := by
  refine ⟨es ++ [eb], ?_, by simp [hl], fun j e p he hp => ?_⟩
  · simpa using hown'
  · by_cases hj : j < es.length
    · rw [List.getElem?_append_left hj] at he
      rw [List.getElem?_append_left (by omega)] at hp
      obtain ⟨msg, hb⟩ := h3 j e p he hp
      exact ⟨msg, hb.fr hf (own_ne hown hb (by decide))⟩
    · rw [List.getElem?_append_right (by omega)] at he
      rw [List.getElem?_append_right (by omega)] at hp
      have hj0 : j = es.length := by
        rcases Nat.lt_or_ge (j - es.length) 1 with h | h
        · omega
        · rw [List.getElem?_eq_none (by simpa using h)] at he; cases he
      subst hj0
      simp at he
      simp [hl] at hp
      subst he
      subst hp
      exact hm
section
variable {w : World} {file : ByteArray} {fb xb vb tb mb n p pcap sb kb m : Nat} {pa : Option Addr} {v2 v3 : Value} {zs : List Int} {bt : Int → Nat} {pb : Nat → Nat}
    {wr : World} {T : Nat → Bool} {last one : Int} {v : Value} {ps : List (Int × Int)} {ix : Nat → Int}
theorem St.count (h : St w file fb xb vb tb mb n p pcap sb kb m pa v2 v3 zs bt pb wr T last one v ps ix) (c : Int) :
    Env (wr.setCell ⟨tb, 5, none⟩ (.int .i64 c)) file fb xb tb mb n zs bt ∧ Table (wr.setCell ⟨tb, 5, none⟩ (.int .i64 c)) tb mb n p pcap pa v2 v3 zs bt pb c true ix ∧ Space (wr.setCell ⟨tb, 5, none⟩ (.int .i64 c)) sb kb m T last one ∧ Errs (wr.setCell ⟨tb, 5, none⟩ (.int .i64 c)) vb w.heap.size file v ps ∧
    Fr (fun b => b = tb ∨ ∃ k, k < p ∧ b = pb k) w (wr.setCell ⟨tb, 5, none⟩ (.int .i64 c)) := by
  obtain ⟨es, h1, h2, h3⟩ := h.er.list
  have hP := h.tbl.tbl
  have hf : Fr (fun b => b = tb) wr (wr.setCell ⟨tb, 5, none⟩ (.int .i64 c)) := Fr.setCell (Fr.refl (fun b => b = tb) wr) (p := ⟨tb, 5, none⟩) (Or.inl rfl) _
  have k1 : ∀ {b t vs}, Blk wr b t vs → t ≠ 44 → ¬ b = tb := fun hb e => hb.ne hP e
  have k2 : ¬ mb = tb := hP.ne_map h.env.map
  have hT : Blk (wr.setCell ⟨tb, 5, none⟩ (.int .i64 c)) tb 44 (tblCells pa p pcap mb v2 v3 c true) := (hP.set 5 (.int .i64 c)).eq (by simp [tblCells])
  refine ⟨⟨h.env.file.fr hf (k1 h.env.file (by decide)), h.env.box.fr hf (k1 h.env.box (by decide)), h.env.map.fr hf k2, fun x hx => (h.env.boots x hx).fr hf (k1 (h.env.boots x hx) (by decide)), hT.cell rfl, _, hT⟩,
    ⟨hT, h.tbl.map.fr hf k2, fun x hx => (h.tbl.boots x hx).fr hf (k1 (h.tbl.boots x hx) (by decide)), fun j hj => ?_, fun j hj => (h.tbl.placed j hj).fr hf (k1 (h.tbl.placed j hj) (by decide))⟩,
    h.sp.fr hf (k1 h.sp.blk (by decide)) (k1 h.sp.row (by decide)), ⟨h.er.var.fr hf (k1 h.er.var (by decide)), h.er.list.fr hf ?_⟩, (h.fr.mono (fun _ _ h => Or.inr h)).trans (hf.mono (fun _ _ h => Or.inl h))⟩
  · obtain ⟨g, vs, e1, e2, e3⟩ := h.tbl.row j hj
    exact ⟨g, vs, e1, e2.fr hf (k1 e2 (by decide)), e3⟩
  · rintro b rfl
    refine ⟨own_ne h1 hP (by decide), ?_⟩
    rintro q ⟨msg, hb'⟩
    exact k1 hb' (by decide) rfl
theorem Table.err {w' : World} {cnt : Int} {base k : Nat} {xs : List Value} (h : Table wr tb mb n p pcap pa v2 v3 zs bt pb cnt true ix) (hv : Blk wr vb 28 [v]) (h1 : wr.ownsRow base 32 1 v k xs) (hf : Fr (fun b => b = vb ∨ some b = v.ownBlock) wr w') : Table w' tb mb n p pcap pa v2 v3 zs bt pb cnt true ix := by
  have k1 : ∀ {b t vs}, Blk wr b t vs → t ≠ 28 → t ≠ 32 → ¬ (b = vb ∨ some b = v.ownBlock) := fun hb e e2 h' => h'.elim (hb.ne hv e) (own_ne h1 hb e2)
  have k2 : ¬ (mb = vb ∨ some mb = v.ownBlock) := by rintro (e | e); exact hv.ne_map h.map e; exact own_ne_map h1 h.map e
  exact h.fr hf (k1 h.tbl (by decide) (by decide)) k2 (fun x hx => k1 (h.boots x hx) (by decide) (by decide)) (fun g vs hg => k1 hg (by decide) (by decide)) (fun k hk => k1 (h.placed k hk) (by decide) (by decide))
end
/-- what the statement of the full table reads -/
structure FullS (file : ByteArray) (vb fb bx : Nat) (v : Value) (line col : Int) (w' : World) : Prop where
  c0 : w'.cell? ⟨vb, 0, none⟩ = some v
  c1 : w'.cell? ⟨fb, 0, none⟩ = some (.string file)
  c4 : w'.cell? ⟨bx, 2, none⟩ = some (.int .i64 line)
  c5 : w'.cell? ⟨bx, 3, none⟩ = some (.int .i64 col)
/-- what the statement of an index past the table reads -/
structure PastS (file : ByteArray) (vb fb bx : Nat) (v : Value) (line col : Int) (w' : World) : Prop where
  c0 : w'.cell? ⟨vb, 0, none⟩ = some v
  c1 : w'.cell? ⟨fb, 0, none⟩ = some (.string file)
  c4 : w'.cell? ⟨bx, 8, none⟩ = some (.int .i64 line)
  c5 : w'.cell? ⟨bx, 9, none⟩ = some (.int .i64 col)
end Go.Proofs.Qxb6616573aFmt
