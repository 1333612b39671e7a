import Derived.Test.Qxb6616573aFmtRange
import Derived.Test.Qxb6616573aFmtSpec
import Derived.Test.Qxb6616573aFmtOrd
import Derived.Deep.DeepCutAuto
namespace Go.Proofs.Qxb6616573aFmt
open Go.RowKit
open Go.Extern.Stop Go.Stop Go.Extern
set_option linter.unusedVariables false
set_option linter.unusedSimpArgs false
/-- what a placed bootstrap's block holds -/
def plCells (k : Nat) (i : Int) : List Value := [.pointer none, .slice none 0 0, .int .i64 (-1), .int .i64 ((k : Int) + 1), .int .i64 i, .string ⟨#[]⟩, .bool false, .bool true, .int .i64 0, .int .i64 0]
def tblCells (pa : Option Addr) (p pcap mb : Nat) (v2 v3 : Value) (cnt : Int) (built : Bool) : List Value := [.slice pa p pcap, .map (some mb), v2, v3, .slice none 0 0, .int .i64 cnt, .bool built, .bool false]
set_option maxHeartbeats 800000 in
theorem layout_not (tb p pcap mb : Nat) (pa : Option Addr) (v2 v3 : Value) (file : ByteArray) (w : World) (ht : Blk w tb 44 (tblCells pa p pcap mb v2 v3 0 false)) :
    Calls Tryf.prog 14 #[.pointer (some ⟨tb, 0, none⟩), .string file] w fun e w' => e = .returned (.slice none 0 0) ∧ Below w.heap.size w w' := by
  have c6 := ht.cell (i := 6) rfl
  have hlt := ht.lt
  go_enter Tryf.func14, Tryf.ntmps14
  go_wp2
  go_ret
  exact ⟨rfl, ((Below.refl _ _).alloc (Nat.le_refl _) _).alloc (by simp) _⟩
/-- The table as layout finds it. -/
structure Table (w : World) (tb mb n p pcap : Nat) (pa : Option Addr) (v2 v3 : Value) (zs : List Int) (bt : Int → Nat) (pb : Nat → Nat) (cnt : Int) (built : Bool) (ix : Nat → Int) : Prop where
  tbl : Blk w tb 44 (tblCells pa p pcap mb v2 v3 cnt built)
  map : MapAt w mb n zs bt
  boots : ∀ x, x ∈ zs → Blk w (bt x) 49 (bootCells x)
  row : ∀ k, k < p → ∃ g vs, pa = some ⟨g, 0, none⟩ ∧ Blk w g 45 vs ∧ vs[k]? = some (.pointer (some ⟨pb k, 0, none⟩))
  placed : ∀ k, k < p → Blk w (pb k) 49 (plCells k (ix k))
theorem newspace' (l : Int) (h1 : -1 ≤ l) (h2 : l ≤ 100000) (w : World) :
    Calls Tryf.prog 15 #[.int .i64 0, .int .i64 l] w fun e w' => ∃ m : Nat, (m : Int) = l + 2 ∧ e = .returned (.pointer (some ⟨w.heap.size + 1, 0, none⟩)) ∧
      Space w' (w.heap.size + 1) w.heap.size m (fun _ => false) (-1) 0 ∧ Below w.heap.size w w' := by
  obtain ⟨m, hm⟩ := Int.eq_ofNat_of_zero_le (show 0 ≤ l + 2 by omega)
  have e1 : l = (m : Int) - 2 := by omega
  rw [e1]
  exact (newspace m (by omega) (by omega) w).mono fun e w' ⟨a, b, c, _⟩ => ⟨m, by omega, a, b, c⟩
/-- the state of the second loop: who is taken, who is past the table -/
structure Took (zs : List Int) (left : Int → Bool) (T : Nat → Bool) (last : Int) (ov : List Int) : Prop where
  nodup : ov.Nodup
  over : ∀ x, x ∈ ov ↔ (x ∈ zs ∧ 65534 < x ∧ left x = false)
  tk : ∀ j : Nat, T j = (decide ((j : Int) ∈ zs) && decide ((j : Int) ≤ 65534) && !left j)
  lo : -1 ≤ last
  hi : last ≤ 65534
  top : ∀ j : Nat, T j = true → (j : Int) ≤ last
  at_ : last = -1 ∨ T last.toNat = true
theorem Took.start (zs : List Int) : Took zs (fun x => decide (x ∈ zs)) (fun _ => false) (-1) [] :=
  ⟨List.nodup_nil, fun x => (by simp only [List.not_mem_nil, false_iff]; rintro ⟨a, _, b⟩; simp [a] at b), fun j => (by by_cases h : (j : Int) ∈ zs <;> simp [h]), (by omega), (by omega), fun j h => (by simp at h), Or.inl rfl⟩
theorem Took.past {zs : List Int} {left : Int → Bool} {T : Nat → Bool} {last : Int} {ov : List Int} (h : Took zs left T last ov) {x : Int} (hx : x ∈ zs) (hl : left x = true) (ho : 65534 < x) : Took zs (fun z => left z && !(z == x)) T last (ov ++ [x]) := by
  refine ⟨?_, fun y => ?_, fun j => ?_, h.lo, h.hi, h.top, h.at_⟩
  · rw [List.nodup_append]
    refine ⟨h.nodup, by simp, fun a ha b hb e => ?_⟩
    simp at hb
    subst hb
    subst e
    have := ((h.over a).1 ha).2.2
    rw [hl] at this; cases this
  · rw [List.mem_append, h.over y]
    by_cases e : y = x
    · subst e; simp [hx, ho]
    · simp [e]
  · rw [h.tk j]
    by_cases hj : (j : Int) ≤ 65534
    · have : ((j : Int) == x) = false := by simp; omega
      simp [this]
    · simp [hj]
theorem Took.take {zs : List Int} {left : Int → Bool} {T : Nat → Bool} {last : Int} {ov : List Int} (h : Took zs left T last ov) {i : Nat} (hx : (i : Int) ∈ zs) (hl : left i = true) (ho : (i : Int) ≤ 65534) :
    Took zs (fun z => left z && !(z == (i : Int))) (fun j => if j = i then true else T j) (max last i) ov := by
  refine ⟨h.nodup, fun y => ?_, fun j => ?_, by have := h.lo; omega, by have := h.hi; omega, fun j hj => ?_, Or.inr ?_⟩
  · rw [h.over y]
    by_cases e : y = (i : Int)
    · subst e; simp; omega
    · simp [e]
  · rw [h.tk j]
    by_cases e : j = i
    · subst e; simp [hx, ho]
    · have : ((j : Int) == (i : Int)) = false := by simp; omega
      simp [e, this]
  · by_cases e : j = i
    · subst e; omega
    · simp [e] at hj
      have := h.top j hj
      omega
  · by_cases e : last ≤ (i : Int)
    · have : (max last (i : Int)).toNat = i := by omega
      simp [this]
    · have e2 : (max last (i : Int)) = last := by omega
      rw [e2]
      rcases h.at_ with h1 | h1
      · omega
      · have : ¬ last.toNat = i := by omega
        simp [this, h1]
theorem lim_step {zs : List Int} {lim : Int} {left : Int → Bool} {x lim' : Int} (h : -1 ≤ lim ∧ lim ≤ 65534 ∧ (lim = -1 ∨ lim ∈ zs) ∧ ∀ y, y ∈ zs → y ≤ 65534 → left y = false → y ≤ lim) (hx : x ∈ zs)
    (hc : (lim' = lim ∧ (65534 < x ∨ x ≤ lim)) ∨ (lim' = x ∧ lim ≤ x ∧ x ≤ 65534)) : -1 ≤ lim' ∧ lim' ≤ 65534 ∧ (lim' = -1 ∨ lim' ∈ zs) ∧ ∀ y, y ∈ zs → y ≤ 65534 → (left y && !(y == x)) = false → y ≤ lim' := by
  obtain ⟨h1, h2, h3, h4⟩ := h
  have key : ∀ y, y ∈ zs → y ≤ 65534 → (left y && !(y == x)) = false → y ≤ lim ∨ y = x := by
    intro y hy1 hy2 hy3
    cases hl : left y with
    | false => exact Or.inl (h4 y hy1 hy2 hl)
    | true => simp [hl] at hy3; exact Or.inr hy3
  rcases hc with ⟨rfl, hc⟩ | ⟨rfl, hc1, hc2⟩
  · refine ⟨h1, h2, h3, fun y a b c => ?_⟩
    rcases key y a b c with h | h <;> omega
  · refine ⟨by omega, hc2, Or.inr hx, fun y a b c => ?_⟩
    rcases key y a b c with h | h <;> omega
theorem Table.fr {X : Nat → Prop} {w w' : World} {tb mb n p pcap : Nat} {pa : Option Addr} {v2 v3 : Value} {zs : List Int} {bt : Int → Nat} {pb : Nat → Nat} {cnt : Int} {built : Bool} {ix : Nat → Int}
    (h : Table w tb mb n p pcap pa v2 v3 zs bt pb cnt built ix) (hf : Fr X w w') (h1 : ¬ X tb) (h2 : ¬ X mb) (h3 : ∀ x, x ∈ zs → ¬ X (bt x)) (h4 : ∀ g vs, Blk w g 45 vs → ¬ X g) (h5 : ∀ k, k < p → ¬ X (pb k)) :
    Table w' tb mb n p pcap pa v2 v3 zs bt pb cnt built ix :=
  ⟨h.tbl.fr hf h1, h.map.fr hf h2, fun x hx => (h.boots x hx).fr hf (h3 x hx), fun k hk => by
    obtain ⟨g, vs, e1, e2, e3⟩ := h.row k hk
    exact ⟨g, vs, e1, e2.fr hf (h4 g vs e2), e3⟩, fun k hk => (h.placed k hk).fr hf (h5 k hk)⟩
end Go.Proofs.Qxb6616573aFmt
