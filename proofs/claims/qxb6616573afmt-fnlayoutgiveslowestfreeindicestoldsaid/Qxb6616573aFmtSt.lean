import Derived.Test.Qxb6616573aFmtTab
namespace Go.Proofs.Qxb6616573aFmt
open Go.RowKit
open Go.Extern.Stop Go.Stop Go.Extern
set_option linter.unusedVariables false
set_option linter.unusedSimpArgs false
/-- Everything layout's loops stand on, at the world wr; w: where layout began. -/
structure St (w : World) (file : ByteArray) (fb xb vb tb mb n p pcap sb kb m : Nat) (pa : Option Addr) (v2 v3 : Value) (zs : List Int) (bt : Int → Nat) (pb : Nat → Nat)
    (wr : World) (T : Nat → Bool) (last one : Int) (v : Value) (ps : List (Int × Int)) (ix : Nat → Int) : Prop where
  env : Env wr file fb xb tb mb n zs bt
  tbl : Table wr tb mb n p pcap pa v2 v3 zs bt pb 0 true ix
  sp : Space wr sb kb m T last one
  er : Errs wr vb w.heap.size file v ps
  fr : Fr (fun b => ∃ k, k < p ∧ b = pb k) w wr
  svb : w.heap.size ≤ vb
  ssb : w.heap.size ≤ sb
  skb : w.heap.size ≤ kb
section
variable {w : World} {file : ByteArray} {fb xb vb tb mb n p pcap sb kb m : Nat} {pa : Option Addr} {v2 v3 : Value} {zs : List Int} {bt : Int → Nat} {pb : Nat → Nat}
    {wr wr' : World} {T T' : Nat → Bool} {last last' one one' : Int} {v v' : Value} {ps ps' : List (Int × Int)} {ix : Nat → Int}
theorem own_ge {w : World} {base : Nat} {e : TypeId} {size : Nat} {v : Value} {n : Nat} {xs : List Value} (h : w.ownsRow base e size v n xs) {b : Nat} (hv : some b = v.ownBlock) : base ≤ b := by
  rcases h.2 with ⟨rfl, _⟩ | ⟨g, cap, cur, rfl, hb, hg, _⟩
  · cases hv
  · simp [Value.ownBlock] at hv
    subst hv
    exact hb
theorem St.rng (h : St w file fb xb vb tb mb n p pcap sb kb m pa v2 v3 zs bt pb wr T last one v ps ix) {r c : Nat} {left : Int → Bool} (hr : RangeAt wr mb r n zs bt left c) (hrw : w.heap.size ≤ r) (hf : Fr (fun b => b = r) wr wr') :
    St w file fb xb vb tb mb n p pcap sb kb m pa v2 v3 zs bt pb wr' T last one v ps ix := by
  obtain ⟨es, h1, h2, h3⟩ := h.er.list
  have k1 : ∀ {b t vs}, Blk wr b t vs → ¬ b = r := fun hb e => hr.ne_blk hb e.symm
  refine ⟨h.env.fr hf (k1 h.env.file) (k1 h.env.box) hr.ne_map (fun x hx => k1 (h.env.boots x hx)) (k1 h.tbl.tbl), h.tbl.fr hf (k1 h.tbl.tbl) hr.ne_map (fun x hx => k1 (h.env.boots x hx)) (fun g vs hg => k1 hg) (fun k hk => k1 (h.tbl.placed k hk)),
    h.sp.fr hf (k1 h.sp.blk) (k1 h.sp.row), ⟨h.er.var.fr hf (k1 h.er.var), h.er.list.fr hf ?_⟩, h.fr.step hf (fun i hi e => by omega), h.svb, h.ssb, h.skb⟩
  rintro b rfl
  refine ⟨own_ne_range h1 hr, ?_⟩
  rintro q ⟨msg, hb⟩
  exact k1 hb rfl
theorem St.err (h : St w file fb xb vb tb mb n p pcap sb kb m pa v2 v3 zs bt pb wr T last one v ps ix) (hf : Fr (fun b => b = vb ∨ some b = v.ownBlock) wr wr') (he : Errs wr' vb w.heap.size file v' ps') :
    St w file fb xb vb tb mb n p pcap sb kb m pa v2 v3 zs bt pb wr' T last one v' ps' ix := by
  obtain ⟨es, h1, h2, h3⟩ := h.er.list
  have k1 : ∀ {b t vs}, Blk wr b t vs → t ≠ 28 → t ≠ 32 → ¬ (b = vb ∨ some b = v.ownBlock) := fun hb e e2 h => h.elim (hb.ne ‹St w file fb xb vb tb mb n p pcap sb kb m pa v2 v3 zs bt pb wr T last one v ps ix›.er.var e) (own_ne h1 hb e2)
  have k2 : ¬ (mb = vb ∨ some mb = v.ownBlock) := by rintro (e | e); exact h.er.var.ne_map h.env.map e; exact own_ne_map h1 h.env.map e
  exact ⟨h.env.err h.er.var h1 hf, h.tbl.fr hf (k1 h.tbl.tbl (by decide) (by decide)) k2 (fun x hx => k1 (h.env.boots x hx) (by decide) (by decide)) (fun g vs hg => k1 hg (by decide) (by decide)) (fun k hk => k1 (h.tbl.placed k hk) (by decide) (by decide)),
    h.sp.err h.er.var h1 hf, he, h.fr.step hf (fun i hi e => by
      rcases e with e | e
      · have := h.svb; omega
      · have := own_ge h1 e; omega), h.svb, h.ssb, h.skb⟩
theorem RangeAt.err (h : St w file fb xb vb tb mb n p pcap sb kb m pa v2 v3 zs bt pb wr T last one v ps ix) (hf : Fr (fun b => b = vb ∨ some b = v.ownBlock) wr wr') {r c : Nat} {left : Int → Bool} (hr : RangeAt wr mb r n zs bt left c) : RangeAt wr' mb r n zs bt left c := by
  obtain ⟨es, h1, h2, h3⟩ := h.er.list
  refine hr.fr hf ?_ ?_
  · rintro (e | e); exact h.er.var.ne_map h.env.map e; exact own_ne_map h1 h.env.map e
  · rintro (e | e); exact hr.ne_blk h.er.var e; exact own_ne_range h1 hr e
theorem St.space (h : St w file fb xb vb tb mb n p pcap sb kb m pa v2 v3 zs bt pb wr T last one v ps ix) (hf : Fr (fun b => b = sb ∨ b = kb) wr wr') (hs : Space wr' sb kb m T' last' one') :
    St w file fb xb vb tb mb n p pcap sb kb m pa v2 v3 zs bt pb wr' T' last' one' v ps ix := by
  obtain ⟨es, h1, h2, h3⟩ := h.er.list
  have k1 : ∀ {b t vs}, Blk wr b t vs → t ≠ 60 → t ≠ 4 → ¬ (b = sb ∨ b = kb) := fun hb e e2 h' => h'.elim (hb.ne h.sp.blk e) (hb.ne h.sp.row e2)
  have k2 : ¬ (mb = sb ∨ mb = kb) := by rintro (e | e); exact h.sp.blk.ne_map h.env.map e; exact Blk.ne_map h.sp.row h.env.map e
  refine ⟨h.env.fr hf (k1 h.env.file (by decide) (by decide)) (k1 h.env.box (by decide) (by decide)) k2 (fun x hx => k1 (h.env.boots x hx) (by decide) (by decide)) (k1 h.tbl.tbl (by decide) (by decide)), h.tbl.fr hf (k1 h.tbl.tbl (by decide) (by decide)) k2 (fun x hx => k1 (h.env.boots x hx) (by decide) (by decide)) (fun g vs hg => k1 hg (by decide) (by decide)) (fun k hk => k1 (h.tbl.placed k hk) (by decide) (by decide)),
    hs, ⟨h.er.var.fr hf (k1 h.er.var (by decide) (by decide)), h.er.list.fr hf ?_⟩, h.fr.step hf (fun i hi e => by have := h.ssb; have := h.skb; omega), h.svb, h.ssb, h.skb⟩
  rintro b hb
  refine ⟨?_, ?_⟩
  · rcases hb with rfl | rfl
    · exact own_ne h1 h.sp.blk (by decide)
    · exact own_ne h1 h.sp.row (by decide)
  · rintro q ⟨msg, hb'⟩
    exact k1 hb' (by decide) (by decide) hb
theorem RangeAt.space (h : St w file fb xb vb tb mb n p pcap sb kb m pa v2 v3 zs bt pb wr T last one v ps ix) (hf : Fr (fun b => b = sb ∨ b = kb) wr wr') {r c : Nat} {left : Int → Bool} (hr : RangeAt wr mb r n zs bt left c) : RangeAt wr' mb r n zs bt left c := by
  refine hr.fr hf ?_ ?_
  · rintro (e | e); exact h.sp.blk.ne_map h.env.map e; exact Blk.ne_map h.sp.row h.env.map e
  · rintro (e | e); exact hr.ne_blk h.sp.blk e; exact hr.ne_blk h.sp.row e
theorem Table.inj {cnt : Int} {built : Bool} (h : Table wr tb mb n p pcap pa v2 v3 zs bt pb cnt built ix) {k j : Nat} (hk : k < p) (hj : j < p) (e : pb k = pb j) : k = j := by
  have h1 := h.placed k hk
  rw [e] at h1
  have := h1.inj (h.placed j hj)
  simp [plCells] at this
  omega
theorem Table.apart {cnt : Int} {built : Bool} (h : Table wr tb mb n p pcap pa v2 v3 zs bt pb cnt built ix) {k : Nat} (hk : k < p) {x : Int} (hx : x ∈ zs) : bt x ≠ pb k := by
  intro e
  have h1 := h.placed k hk
  rw [← e] at h1
  have := h1.inj (h.boots x hx)
  simp [plCells, bootCells] at this
theorem St.index (h : St w file fb xb vb tb mb n p pcap sb kb m pa v2 v3 zs bt pb wr T last one v ps ix) {k : Nat} (hk : k < p) (i : Int) :
    St w file fb xb vb tb mb n p pcap sb kb m pa v2 v3 zs bt pb (wr.setCell ⟨pb k, 4, none⟩ (.int .i64 i)) T last one v ps (fun j => if j = k then i else ix j) := by
  obtain ⟨es, h1, h2, h3⟩ := h.er.list
  have hP := h.tbl.placed k hk
  have hf : Fr (fun b => b = pb k) wr (wr.setCell ⟨pb k, 4, none⟩ (.int .i64 i)) := Fr.setCell (Fr.refl (fun b => b = pb k) wr) (p := ⟨pb k, 4, none⟩) (Or.inl rfl) _
  have k1 : ∀ {b t vs}, Blk wr b t vs → t ≠ 49 → ¬ b = pb k := fun hb e => hb.ne hP e
  have k2 : ¬ mb = pb k := hP.ne_map h.env.map
  have k3 : ∀ x, x ∈ zs → ¬ bt x = pb k := fun x hx => h.tbl.apart hk hx
  refine ⟨h.env.fr hf (k1 h.env.file (by decide)) (k1 h.env.box (by decide)) k2 k3 (k1 h.tbl.tbl (by decide)),
    ⟨h.tbl.tbl.fr hf (k1 h.tbl.tbl (by decide)), h.tbl.map.fr hf k2, fun x hx => (h.tbl.boots x hx).fr hf (k3 x hx), fun j hj => ?_, fun j hj => ?_⟩,
    h.sp.fr hf (k1 h.sp.blk (by decide)) (k1 h.sp.row (by decide)), ⟨h.er.var.fr hf (k1 h.er.var (by decide)), h.er.list.fr hf ?_⟩, h.fr.step hf (fun i hi e => ⟨k, hk, e⟩), h.svb, h.ssb, h.skb⟩
  · obtain ⟨g, vs, e1, e2, e3⟩ := h.tbl.row j hj
    exact ⟨g, vs, e1, e2.fr hf (k1 e2 (by decide)), e3⟩
  · by_cases e : j = k
    · subst e
      exact (hP.set 4 (.int .i64 i)).eq (by simp [plCells])
    · simp only [if_neg e]
      exact (h.tbl.placed j hj).fr hf (fun e2 => e (h.tbl.inj hj hk e2))
  · rintro b rfl
    refine ⟨own_ne h1 hP (by decide), ?_⟩
    rintro q ⟨msg, hb'⟩
    exact k1 hb' (by decide) rfl
end
end Go.Proofs.Qxb6616573aFmt
