/-
  MEMORY: a block known whole ('Blk'), a frame relation ('Fr'), rows of bools told by a function ('Bools'). Nothing of the program is named here.
-/
import Derived.WalkKit
import Derived.WalkSpells
import Derived.WalkLawsBesides
import Derived.Deep.AppendLies
import Derived.Laws.CopyRow
namespace Go.Proofs.Qxb6616573aFmt
open Go.RowKit

/-- Block b of w holds just these cells, none frozen. -/
def Blk (w : World) (b : Nat) (t : TypeId) (vs : List Value) : Prop := w.heap[b]? = some (.cells vs.toArray t (0, 0))

/-- w' is w but for the blocks that X names, and for new blocks. -/
structure Fr (X : Nat → Prop) (w w' : World) : Prop where
  os : w'.os = w.os
  tape : w'.tape = w.tape
  output : w'.output = w.output
  size : w.heap.size ≤ w'.heap.size
  block : ∀ b, b < w.heap.size → ¬ X b → w'.heap[b]? = w.heap[b]?

theorem Fr.refl (X : Nat → Prop) (w : World) : Fr X w w := ⟨rfl, rfl, rfl, Nat.le_refl _, fun _ _ _ => rfl⟩
theorem Fr.trans {X : Nat → Prop} {a b c : World} (h : Fr X a b) (k : Fr X b c) : Fr X a c :=
  ⟨k.os.trans h.os, k.tape.trans h.tape, k.output.trans h.output, Nat.le_trans h.size k.size, fun i hi hx => (k.block i (Nat.lt_of_lt_of_le hi h.size) hx).trans (h.block i hi hx)⟩
theorem Fr.mono {X Y : Nat → Prop} {a b : World} (h : Fr X a b) (hxy : ∀ i, i < a.heap.size → X i → Y i) : Fr Y a b :=
  ⟨h.os, h.tape, h.output, h.size, fun i hi hy => h.block i hi (fun hx => hy (hxy i hi hx))⟩
theorem Fr.drew {X : Nat → Prop} {a b : World} (h : Fr X a b) : Fr X a b.drew := ⟨h.os, h.tape, h.output, h.size, h.block⟩
theorem Fr.drewN {X : Nat → Prop} {a b : World} (h : Fr X a b) (n : Nat) : Fr X a (b.drewN n) := ⟨h.os, h.tape, h.output, h.size, h.block⟩
theorem Fr.alloc {X : Nat → Prop} {a b : World} (h : Fr X a b) (o : Obj) : Fr X a (b.alloc o) :=
  h.trans ⟨rfl, rfl, rfl, by simp, fun i hi _ => Below.heap_alloc _ _ _ hi⟩
theorem Fr.setCell {X : Nat → Prop} {a b : World} (h : Fr X a b) {p : Addr} (hp : X p.block ∨ a.heap.size ≤ p.block) (u : Value) : Fr X a (b.setCell p u) :=
  ⟨h.os, h.tape, h.output, by simpa [World.setCell] using h.size, fun i hi hx => by
    rw [Below.heap_setCell _ _ _ _ (fun e => by subst e; rcases hp with hp | hp
                                                · exact hx hp
                                                · omega)]
    exact h.block i hi hx⟩
theorem Fr.of_below {w w' : World} (h : Below w.heap.size w w') (X : Nat → Prop) : Fr X w w' := ⟨h.os, h.tape, h.output, h.size, fun b hb _ => h.block b hb⟩
theorem Fr.below {X : Nat → Prop} {w w' : World} (h : Fr X w w') {B : Nat} (hB : B ≤ w.heap.size) (hX : ∀ i, i < B → ¬ X i) : Below B w w' :=
  ⟨h.os, h.tape, h.output, h.size, fun k hk => h.block k (Nat.lt_of_lt_of_le hk hB) (hX k hk)⟩
theorem Fr.of_grown {w w' : World} {row : Option Nat} (h : w.grownBy w' row) : Fr (fun b => some b = row) w w' := ⟨h.os, h.tape, h.output, h.size, fun b hb hx => h.block b hb hx⟩
theorem Fr.cell {X : Nat → Prop} {w w' : World} (h : Fr X w w') {p : Addr} (hp : p.block < w.heap.size) (hx : ¬ X p.block) : w'.cell? p = w.cell? p := World.cell?_of_block (h.block _ hp hx)
theorem Fr.frozen {X : Nat → Prop} {w w' : World} (h : Fr X w w') {p : Addr} (hp : p.block < w.heap.size) (hx : ¬ X p.block) : w'.frozen? p = w.frozen? p := World.frozen?_of_block (h.block _ hp hx)

theorem Blk.lt {w : World} {b : Nat} {t : TypeId} {vs : List Value} (h : Blk w b t vs) : b < w.heap.size := by
  rcases Nat.lt_or_ge b w.heap.size with hlt | hge
  · exact hlt
  · unfold Blk at h; rw [Array.getElem?_eq_none hge] at h; cases h
theorem Blk.cell {w : World} {b : Nat} {t : TypeId} {vs : List Value} (h : Blk w b t vs) {i : Nat} {v : Value} (hi : vs[i]? = some v) : w.cell? ⟨b, i, none⟩ = some v := by
  unfold Blk at h
  simp [World.cell?, h, hi]
theorem Blk.frozen {w : World} {b : Nat} {t : TypeId} {vs : List Value} (h : Blk w b t vs) (i : Nat) : w.frozen? ⟨b, i, none⟩ = false := by
  unfold Blk at h
  simp [World.frozen?, h]
theorem Blk.fr {X : Nat → Prop} {w w' : World} {b : Nat} {t : TypeId} {vs : List Value} (h : Blk w b t vs) (hf : Fr X w w') (hx : ¬ X b) : Blk w' b t vs :=
  (hf.block b h.lt hx).trans h
theorem Blk.alloc {w : World} {b : Nat} {t : TypeId} {vs : List Value} (h : Blk w b t vs) (o : Obj) : Blk (w.alloc o) b t vs :=
  h.fr ((Fr.refl (fun _ => False) w).alloc o) (fun x => x)
theorem Blk.drew {w : World} {b : Nat} {t : TypeId} {vs : List Value} (h : Blk w b t vs) : Blk w.drew b t vs := h
theorem Blk.drewN {w : World} {b : Nat} {t : TypeId} {vs : List Value} (h : Blk w b t vs) (n : Nat) : Blk (w.drewN n) b t vs := h
theorem Blk.new (w : World) (vs : List Value) (t : TypeId) : Blk (w.alloc (.cells vs.toArray t)) w.heap.size t vs := by
  unfold Blk World.alloc
  simp
theorem Blk.set {w : World} {b : Nat} {t : TypeId} {vs : List Value} (h : Blk w b t vs) (i : Nat) (v : Value) : Blk (w.setCell ⟨b, i, none⟩ v) b t (vs.set i v) := by
  have hl := h.lt
  unfold Blk at h ⊢
  simp only [World.setCell, Array.getElem?_modify]
  simp [h]
theorem Blk.set_other {w : World} {b : Nat} {t : TypeId} {vs : List Value} (h : Blk w b t vs) {p : Addr} (hp : b ≠ p.block) (v : Value) : Blk (w.setCell p v) b t vs := by
  unfold Blk at h ⊢
  rw [Below.heap_setCell _ _ _ _ hp]
  exact h
theorem Blk.inj {w : World} {b : Nat} {t t' : TypeId} {vs vs' : List Value} (h : Blk w b t vs) (h' : Blk w b t' vs') : vs = vs' := by
  unfold Blk at h h'
  rw [h] at h'
  simp at h'
  exact h'.1
theorem Blk.eq {w : World} {b : Nat} {t : TypeId} {vs vs' : List Value} (h : Blk w b t vs) (e : vs = vs') : Blk w b t vs' := e ▸ h

/-- A row of n bools, told by a function. -/
def Bools (w : World) (b n : Nat) (T : Nat → Bool) : Prop := Blk w b 4 ((List.range n).map fun j => .bool (T j))
theorem Bools.cell {w : World} {b n : Nat} {T : Nat → Bool} (h : Bools w b n T) {i : Nat} (hi : i < n) : w.cell? ⟨b, i, none⟩ = some (.bool (T i)) :=
  Blk.cell h (by simp [hi])
theorem Bools.set {w : World} {b n : Nat} {T : Nat → Bool} (h : Bools w b n T) {i : Nat} (v : Bool) : Bools (w.setCell ⟨b, i, none⟩ (.bool v)) b n (fun j => if j = i then v else T j) := by
  refine (Blk.set h i (.bool v)).eq ?_
  apply List.ext_getElem?
  intro j
  rw [List.getElem?_set]
  by_cases hj : i = j
  · subst hj
    by_cases hlt : i < n <;> simp [hlt]
  · have hj' : ¬ j = i := fun e => hj e.symm
    simp only [hj, if_false, List.getElem?_map]
    by_cases hlt : j < n
    · simp [hlt, hj']
    · simp [hlt]
theorem Bools.congr {w : World} {b n : Nat} {T T' : Nat → Bool} (h : Bools w b n T) (e : ∀ j, j < n → T j = T' j) : Bools w b n T' := by
  refine Blk.eq h ?_
  apply List.map_congr_left
  intro j hj
  rw [e j (by simpa using hj)]

/-- A row of ints. -/
def IntRow (w : World) (b : Nat) (zs : List Int) : Prop := Blk w b 3 (zs.map fun z => .int .i64 z)
theorem IntRow.cell {w : World} {b : Nat} {zs : List Int} (h : IntRow w b zs) {i : Nat} {z : Int} (hi : zs[i]? = some z) : w.cell? ⟨b, i, none⟩ = some (.int .i64 z) :=
  Blk.cell h (by simp [hi])
theorem IntRow.set {w : World} {b : Nat} {zs : List Int} (h : IntRow w b zs) (i : Nat) (z : Int) : IntRow (w.setCell ⟨b, i, none⟩ (.int .i64 z)) b (zs.set i z) :=
  (Blk.set h i _).eq (by rw [List.map_set])

end Go.Proofs.Qxb6616573aFmt
