import Derived.Test.Qxb6616573aFmtMem
import Derived.Test.Qxb6616573aFmtRows
import Derived.LoopN
import Derived.LoopTactic
import Derived.Deep.QuietTactic
import Derived.BigQuiet
import Derived.Deep.LoopGhost
import Derived.Deep.Light
namespace Go.Proofs.Qxb6616573aFmt
open Go.RowKit
set_option linter.unusedVariables false
set_option linter.unusedSimpArgs false
structure Space (w : World) (sb kb n : Nat) (T : Nat → Bool) (last one : Int) : Prop where
  blk : Blk w sb 60 [.slice (some ⟨kb, 0, none⟩) n n, .int .i64 last, .int .i64 one, .int .i64 0]
  row : Bools w kb n T
  ne : sb ≠ kb

theorem info4 : ∃ i, Tryf.prog.info? 4 = some i ∧ i.zero = some (.bool false) ∧ i.size = 1 ∧ i.bytes = 1 := ⟨_, rfl, by kernel_rfl, by kernel_rfl, by kernel_rfl⟩
theorem made_bools (n : Nat) : madeCells #[.bool false] n = ((List.range n).map fun _ => Value.bool false).toArray := by
  unfold madeCells
  apply Array.ext'
  simp
  intro a _
  rw [Nat.mod_one]
  rfl
theorem make37 (w : World) (n : Nat) (h : n ≤ 1000000) : (Instr.makeSlice 37 (.int .i64 n) (.int .i64 n)).run Tryf.prog w =
    .ok (.slice (some ⟨w.heap.size, 0, none⟩) n n) (w.alloc (.cells ((List.range n).map fun _ => Value.bool false).toArray 4)) := by
  obtain ⟨i, h1, h2, h3, h4⟩ := info4
  have := run_make (P := Tryf.prog) w 37 4 i (.bool false) Tryf.underlying37 h1 h2 .i64 .i64 n n (by omega) (Int.le_refl _) (by rw [h4]; omega) (by omega)
  rw [this, h3, Nat.mul_one, Int.toNat_natCast]
  rw [← made_bools]
  rfl

set_option maxHeartbeats 400000 in
theorem newspace (n : Nat) (h1 : 1 ≤ n) (h : n ≤ 1000000) (w : World) :
    Calls Tryf.prog 15 #[.int .i64 0, .int .i64 ((n : Int) - 2)] w fun e w' => e = .returned (.pointer (some ⟨w.heap.size + 1, 0, none⟩)) ∧
      Space w' (w.heap.size + 1) w.heap.size n (fun _ => false) (-1) 0 ∧ Below w.heap.size w w' ∧ w'.heap.size = w.heap.size + 2 := by
  have hmk := fun W => make37 W n h
  have e1 : (n : Int) - 2 + 2 = n := by omega
  go_enter Tryf.func15, Tryf.ntmps15
  go_wp2
  go_ret
  refine ⟨rfl, ⟨?_, ?_, by omega⟩, ((Below.refl _ _).alloc (Nat.le_refl _) _).alloc (by simp) _, by simp⟩
  · have := Blk.new (w.alloc (.cells ((List.range n).map fun _ => Value.bool false).toArray 4)) [.slice (some ⟨w.heap.size, 0, none⟩) n n, .int .i64 (-1), .int .i64 0, .int .i64 0] 60
    simpa using this
  · exact (Blk.new w ((List.range n).map fun _ => Value.bool false) 4).alloc _

set_option maxHeartbeats 400000 in
theorem scount (sb kb n : Nat) (T : Nat → Bool) (last one : Int) (w : World) (hs : Space w sb kb n T last one) (hl0 : -1 ≤ last) (hl1 : last ≤ 1000000) :
    Calls Tryf.prog 19 #[.pointer (some ⟨sb, 0, none⟩)] w fun e w' => e = .returned (.int .i64 (last + 1)) ∧ w' = w := by
  have c1 := hs.blk.cell (i := 1) rfl
  clear hs
  go_enter Tryf.func19, Tryf.ntmps19
  go_wp2
  go_ret
  exact ⟨rfl, rfl⟩

theorem setl {w : World} {a : Addr} {x y : Int} (h : x = y) : w.setCell a (.int .i64 x) = w.setCell a (.int .i64 y) := by rw [h]
theorem Space.took {w : World} {sb kb n : Nat} {T : Nat → Bool} {last one : Int} (hs : Space w sb kb n T last one) (i : Nat) (l : Int) :
    Space ((w.setCell ⟨kb, i, none⟩ (.bool true)).setCell ⟨sb, 1, none⟩ (.int .i64 l)) sb kb n (fun j => if j = i then true else T j) l one :=
  ⟨((hs.blk.set_other (p := ⟨kb, i, none⟩) hs.ne _).set 1 (.int .i64 l)), Blk.set_other (Bools.set hs.row true) (p := ⟨sb, 1, none⟩) (fun e => hs.ne e.symm) _, hs.ne⟩

set_option maxHeartbeats 800000 in
theorem stake (sb kb n i : Nat) (T : Nat → Bool) (last one : Int) (w : World) (hs : Space w sb kb n T last one) (hi : i < n) (hn : n ≤ 1000000) (hl0 : -1 ≤ last) (hl1 : last ≤ 1000000) :
    Calls Tryf.prog 17 #[.pointer (some ⟨sb, 0, none⟩), .int .i64 i, .int .i64 1] w fun e w' => e = .returned (.tuple #[]) ∧
      w' = (w.setCell ⟨kb, i, none⟩ (.bool true)).setCell ⟨sb, 1, none⟩ (.int .i64 (max last i)) := by
  have c0 := hs.blk.cell (i := 0) rfl
  have c1 := hs.blk.cell (i := 1) rfl
  have f1 := hs.blk.frozen 1
  have ck := hs.row.cell hi
  have fk := Blk.frozen hs.row i
  have hne := hs.ne
  have hne' : ¬ kb = sb := fun e => hne e.symm
  clear hs
  have hi0 : (0 : Int) ≤ (i : Int) := by omega
  have hi1 : (i : Int) < (n : Int) := by omega
  have hi2 : (i : Int) ≤ 1000000 := by omega
  go_enter Tryf.func17, Tryf.ntmps17
  go_wp2
  refine wp_loop_rounds 2 ?_
  rw [rounds_succ]; go_wp2
  rw [rounds_succ]; go_wp2
  all_goals (go_end0; exact ⟨rfl, setl (by omega)⟩)
theorem Space.oned {w : World} {sb kb n : Nat} {T : Nat → Bool} {last one : Int} (hs : Space w sb kb n T last one) (o : Int) :
    Space (w.setCell ⟨sb, 2, none⟩ (.int .i64 o)) sb kb n T last o :=
  ⟨hs.blk.set 2 (.int .i64 o), Blk.set_other hs.row (p := ⟨sb, 2, none⟩) (fun e => hs.ne e.symm) _, hs.ne⟩
theorem Space.drewN {w : World} {sb kb n : Nat} {T : Nat → Bool} {last one : Int} (hs : Space w sb kb n T last one) (q : Nat) : Space (w.drewN q) sb kb n T last one :=
  ⟨hs.blk, hs.row, hs.ne⟩

/-- f: the first index from o on that is free, or one past the limit. -/
structure Free (T : Nat → Bool) (n o f : Nat) : Prop where
  le : o ≤ f
  lt : f < n
  full : ∀ j, o ≤ j → j < f → T j = true
  free : f + 1 < n → T f = false

set_option maxHeartbeats 1600000 in
theorem lowest (sb kb n o f : Nat) (T : Nat → Bool) (last : Int) (w : World) (hs : Space w sb kb n T last o) (hf : Free T n o f) (hn : n ≤ 1000000) (hl0 : -1 ≤ last) (hl1 : last ≤ 1000000) :
    Calls Tryf.prog 18 #[.pointer (some ⟨sb, 0, none⟩), .int .i64 1] w fun e w' =>
      Fr (fun b => b = sb ∨ b = kb) w w' ∧
      ((f + 1 < n ∧ e = .returned (.tuple #[.int .i64 f, .bool true]) ∧ Space w' sb kb n (fun j => if j = f then true else T j) (max last f) f) ∨
       (n ≤ f + 1 ∧ e = .returned (.tuple #[.int .i64 0, .bool false]) ∧ Space w' sb kb n T last f)) := by
  have c0 := hs.blk.cell (i := 0) rfl
  obtain ⟨h1, h2, h3, h4⟩ := hf
  have hn0 : (0 : Int) ≤ (n : Int) := by omega
  have hn1 : (n : Int) ≤ 1000000 := by omega
  go_enter Tryf.func18, Tryf.ntmps18
  go_wp2
  clear c0
  go_loopg [33] (f - o) (fun g s33 wr => ∃ k : Nat, o ≤ k ∧ k ≤ f ∧ g = f - k ∧ Space wr sb kb n T last k ∧ Fr (fun b => b = sb ∨ b = kb) w wr)
  case atStart => exact ⟨o, Nat.le_refl _, h1, rfl, hs, Fr.refl _ _⟩
  case round =>
    obtain ⟨k, hk1, hk2, rfl, hsp, hfr⟩ := hrel
    have c0 := hsp.blk.cell (i := 0) rfl
    have c2 := hsp.blk.cell (i := 2) rfl
    have f2 := hsp.blk.frozen 2
    have ck := hsp.row.cell (i := k) (by omega)
    by_cases hlt : k < f
    · have hT := h3 k hk1 hlt
      rw [hT] at ck
      have hd : decide ((k : Int) ≤ (n : Int) - 2) = true := by simp; omega
      have hkn : (k : Int) < (n : Int) := by omega
      go_wp2
      go_quiet (fail)
      go_wp2
      go_roundg (f - (k + 1))
      case measure => omega
      case rel => exact ⟨k + 1, by omega, by omega, rfl, (hsp.drewN _).oned _, (hfr.drewN _).setCell (Or.inl (Or.inl rfl)) _⟩
    · have hkf : k = f := by omega
      subst hkf
      by_cases hin : k + 1 < n
      · have hT := h4 hin
        rw [hT] at ck
        have hd : decide ((k : Int) ≤ (n : Int) - 2) = true := by simp; omega
        have hkn : (k : Int) < (n : Int) := by omega
        go_wp2
        go_quiet (fail)
        go_wp2_with fail
        refine (stake sb kb n k T last k _ (hsp.drewN _) (by omega) hn hl0 hl1).mono ?_
        rintro e w1 ⟨rfl, rfl⟩
        go_wp2
        go_ret2
        exact ⟨((hfr.drewN _).setCell (Or.inl (Or.inr rfl)) _).setCell (Or.inl (Or.inl rfl)) _, Or.inl ⟨hin, rfl, (hsp.drewN _).took _ _⟩⟩
      · have hd : decide ((k : Int) ≤ (n : Int) - 2) = false := by simp; omega
        have hd' : ¬ (k : Int) ≤ (n : Int) - 2 := by omega
        go_wp2
        go_quiet (fail)
        go_wp2_with fail
        go_ret2
        exact ⟨hfr.drewN _, Or.inr ⟨by omega, rfl, hsp.drewN _⟩⟩
end Go.Proofs.Qxb6616573aFmt
