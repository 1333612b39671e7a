/-
  THE MAP OF FIXED BOOTSTRAPS (its elements pointers: read as block numbers), THE LIST OF ERRORS, and the closure that layout hands to emptyRuns.
-/
import Derived.Test.Qxb6616573aFmtErr
import Derived.Maps.RangeWalk
import Derived.Maps.Ext
namespace Go.Proofs.Qxb6616573aFmt
open Go.RowKit
open Go.Maps (Keyed int_keyed)
open Go.Extern.Stop Go.Stop Go.Extern
set_option linter.unusedVariables false
set_option linter.unusedSimpArgs false

theorem lawK : Keyed Tryf.prog 3 := int_keyed Tryf.underlying3
theorem zero45 (w : World) : (zeroValue 45).run Tryf.prog w = .ok (.pointer none) w := by kernel_rfl

/-- A pointer to a block's head reads as the block's number. -/
def ptrElem (v : Value) : Option (DataW Unit × List MemPlace) :=
  match v with
  | .pointer (some ⟨b, 0, none⟩) => some (.lit (.int .i64 b), [])
  | .pointer none => some (.nil, [])
  | _ => none
theorem ptrElem_mk (b : Nat) : ptrElem (.pointer (some ⟨b, 0, none⟩)) = some (.lit (.int .i64 b), []) := rfl
theorem ptrElem_inv {v : Value} {b : Nat} {ps : List MemPlace} (h : ptrElem v = some (.lit (.int .i64 b), ps)) : v = .pointer (some ⟨b, 0, none⟩) := by
  unfold ptrElem at h
  split at h
  · simp at h
    obtain ⟨h1, _⟩ := h
    have : (_ : Nat) = b := Int.ofNat.inj h1
    subst this
    rfl
  · simp at h
  · cases h

/-- Block mb is the map: key x leads to block 'bt x', for the keys of zs and no other. -/
def MapAt (w : World) (mb n : Nat) (zs : List Int) (bt : Int → Nat) : Prop :=
  ∃ D, w.ownsMap Tryf.prog 3 ptrElem mb n D ∧ (∀ x, Maps.has D (.int .i64 x) = decide (x ∈ zs)) ∧ ∀ x, x ∈ zs → D.atKey (.int .i64 x) .nil = .lit (.int .i64 (bt x))

theorem wf_i64 {x : Int} (h0 : 0 ≤ x) (h1 : x ≤ 9223372036854775807) : (Lit.int .i64 x).wf = true := WalkArith.wf_i64 (by omega)

theorem MapAt.heap {w w' : World} {mb n : Nat} {zs : List Int} {bt : Int → Nat} (h : MapAt w mb n zs bt) (e : w'.heap[mb]? = w.heap[mb]?) : MapAt w' mb n zs bt := by
  obtain ⟨D, ⟨es, clock, hb, F, hs, hD⟩, h2, h3⟩ := h
  exact ⟨D, ⟨es, clock, e.trans hb, F, hs, hD⟩, h2, h3⟩
theorem MapAt.lt {w : World} {mb n : Nat} {zs : List Int} {bt : Int → Nat} (h : MapAt w mb n zs bt) : mb < w.heap.size := by
  obtain ⟨D, h, _⟩ := h
  exact h.lt
theorem MapAt.fr {X : Nat → Prop} {w w' : World} {mb n : Nat} {zs : List Int} {bt : Int → Nat} (h : MapAt w mb n zs bt) (hf : Fr X w w') (hx : ¬ X mb) : MapAt w' mb n zs bt :=
  h.heap (hf.block mb h.lt hx)
theorem MapAt.look {w : World} {mb n : Nat} {zs : List Int} {bt : Int → Nat} (h : MapAt w mb n zs bt) {x : Int} (hx : x ∈ zs) (hw : (Lit.int .i64 x).wf = true) :
    (Instr.lookup 40 (.map (some mb)) (.int .i64 x) false).run Tryf.prog w = .ok (.pointer (some ⟨bt x, 0, none⟩)) w := by
  obtain ⟨D, h1, h2, h3⟩ := h
  obtain ⟨v, ps, hrun, hR⟩ := h1.lookup lawK Tryf.underlying40 (zero45 w) (zd := .nil) (zp := []) rfl (Maps.keyOf_int_mk Tryf.underlying3 hw)
  rw [h3 x hx] at hR
  rw [hrun, ptrElem_inv hR]

/-- Two blocks of other kinds are two. -/
theorem Blk.ne {w : World} {b b' : Nat} {t t' : TypeId} {vs vs' : List Value} (h : Blk w b t vs) (h' : Blk w b' t' vs') (ht : t ≠ t') : b ≠ b' := by
  rintro rfl
  unfold Blk at h h'
  rw [h] at h'
  simp at h'
  exact ht h'.2
theorem Blk.ne_map {w : World} {b mb n : Nat} {t : TypeId} {vs : List Value} {zs : List Int} {bt : Int → Nat} (h : Blk w b t vs) (h' : MapAt w mb n zs bt) : mb ≠ b := by
  rintro rfl
  obtain ⟨D, ⟨es, clock, hb, _⟩, _⟩ := h'
  unfold Blk at h
  rw [hb] at h
  cases h
/-- The row that a value owns is no block of another kind. -/
theorem own_ne {w : World} {base : Nat} {e : TypeId} {size : Nat} {v : Value} {n : Nat} {xs : List Value} (h : w.ownsRow base e size v n xs) {b : Nat} {t : TypeId} {vs : List Value} (hb : Blk w b t vs) (ht : t ≠ e) : ¬ some b = v.ownBlock := by
  intro hv
  rcases h.2 with ⟨rfl, _⟩ | ⟨g, cap, cur, rfl, _, hg, _⟩
  · cases hv
  · simp [Value.ownBlock] at hv
    subst hv
    unfold Blk at hb
    rw [hb] at hg
    simp at hg
    exact ht hg.2
theorem own_ne_map {w : World} {base : Nat} {e : TypeId} {size : Nat} {v : Value} {n : Nat} {xs : List Value} (h : w.ownsRow base e size v n xs) {mb k : Nat} {zs : List Int} {bt : Int → Nat} (hb : MapAt w mb k zs bt) : ¬ some mb = v.ownBlock := by
  intro hv
  rcases h.2 with ⟨rfl, _⟩ | ⟨g, cap, cur, rfl, _, hg, _⟩
  · cases hv
  · simp [Value.ownBlock] at hv
    subst hv
    obtain ⟨D, ⟨es, clock, hb, _⟩, _⟩ := hb
    rw [hb] at hg
    cases hg
theorem own_fr {X : Nat → Prop} {w w' : World} {base : Nat} {e : TypeId} {size : Nat} {v : Value} {n : Nat} {xs : List Value} (h : w.ownsRow base e size v n xs) (hf : Fr X w w') (hx : ∀ b, some b = v.ownBlock → ¬ X b) : w'.ownsRow base e size v n xs := by
  obtain ⟨h1, h2⟩ := h
  refine ⟨h1, ?_⟩
  rcases h2 with h2 | ⟨g, cap, cur, rfl, hg, hh, r⟩
  · exact Or.inl h2
  · have hlt : g < w.heap.size := by
      rcases Nat.lt_or_ge g w.heap.size with hlt | hge
      · exact hlt
      · rw [Array.getElem?_eq_none hge] at hh; cases hh
    exact Or.inr ⟨g, cap, cur, rfl, hg, (hf.block g hlt (hx g rfl)).trans hh, r⟩

/-- What an error's block holds. -/
def ErrBlk (w : World) (b : Nat) (file : ByteArray) (p : Int × Int) : Prop := ∃ msg : ByteArray, Blk w b 36 [.string file, .int .i64 p.1, .int .i64 p.2, .string msg, .string ⟨#[]⟩]

/-- The value v is the list of errors at the places ps. -/
def ErrList (w : World) (base : Nat) (file : ByteArray) (v : Value) (ps : List (Int × Int)) : Prop :=
  ∃ es : List Nat, w.ownsRow base 32 1 v ps.length (es.map fun e => .pointer (some ⟨e, 0, none⟩)) ∧ es.length = ps.length ∧ ∀ (j e : Nat) (p : Int × Int), es[j]? = some e → ps[j]? = some p → ErrBlk w e file p

theorem ErrList.fr {X : Nat → Prop} {w w' : World} {base : Nat} {file : ByteArray} {v : Value} {ps : List (Int × Int)} (h : ErrList w base file v ps) (hf : Fr X w w') (hx : ∀ b, X b → some b ≠ v.ownBlock ∧ ∀ q, ¬ ErrBlk w b file q) : ErrList w' base file v ps := by
  obtain ⟨es, h1, h2, h3⟩ := h
  refine ⟨es, own_fr h1 hf (fun b hb hX => (hx b hX).1 hb), h2, fun j e p he hp => ?_⟩
  obtain ⟨msg, hm⟩ := h3 j e p he hp
  exact ⟨msg, hm.fr hf (fun hX => (hx e hX).2 p ⟨msg, hm⟩)⟩

theorem ErrList.nil (w : World) (base : Nat) (file : ByteArray) : ErrList w base file (.slice none 0 0) [] :=
  ⟨[], ⟨rfl, Or.inl ⟨rfl, rfl⟩⟩, rfl, fun j e p he => by simp at he⟩

theorem info32 : (Tryf.prog.info? 32).map (fun i => (i.zero, i.size, i.bytes)) = some (some (.pointer none), 1, 8) := by kernel_rfl

end Go.Proofs.Qxb6616573aFmt
