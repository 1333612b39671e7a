import Derived.Test.Qxb6616573aFmtMap
import Derived.Test.Qxb6616573aFmtOrd
namespace Go.Proofs.Qxb6616573aFmt
open Go.RowKit
open Go.Extern.Stop Go.Stop Go.Extern
set_option linter.unusedVariables false
set_option linter.unusedSimpArgs false
theorem own_lt {w : World} {base : Nat} {e : TypeId} {size : Nat} {v : Value} {n : Nat} {xs : List Value} (h : w.ownsRow base e size v n xs) {b : Nat} (hv : some b = v.ownBlock) : b < w.heap.size := by
  rcases h.2 with ⟨rfl, _⟩ | ⟨g, cap, cur, rfl, _, hg, _⟩
  · cases hv
  · simp [Value.ownBlock] at hv
    subst hv
    rcases Nat.lt_or_ge b w.heap.size with hlt | hge
    · exact hlt
    · rw [Array.getElem?_eq_none hge] at hg; cases hg
/-- what the closure's statement reads -/
structure CloS (file : ByteArray) (vb fb xb tb mb bx : Nat) (v : Value) (ab line col : Int) (w' : World) : Prop where
  c0 : w'.cell? ⟨vb, 0, none⟩ = some v
  c1 : w'.cell? ⟨fb, 0, none⟩ = some (.string file)
  c2 : w'.cell? ⟨xb, 0, none⟩ = some (.pointer (some ⟨tb, 0, none⟩))
  c3 : w'.cell? ⟨tb, 1, none⟩ = some (.map (some mb))
  c4 : w'.cell? ⟨bx, 8, none⟩ = some (.int .i64 line)
  c5 : w'.cell? ⟨bx, 9, none⟩ = some (.int .i64 col)
  lk : (Instr.lookup 40 (.map (some mb)) (.int .i64 ab) false).run Tryf.prog w' = .ok (.pointer (some ⟨bx, 0, none⟩)) w'
theorem CloS.all {file : ByteArray} {vb fb xb tb mb bx : Nat} {v : Value} {ab line col : Int} {w' : World} (h : CloS file vb fb xb tb mb bx v ab line col w') :
    w'.cell? ⟨vb, 0, none⟩ = some v ∧ w'.cell? ⟨fb, 0, none⟩ = some (.string file) ∧ w'.cell? ⟨xb, 0, none⟩ = some (.pointer (some ⟨tb, 0, none⟩)) ∧ w'.cell? ⟨tb, 1, none⟩ = some (.map (some mb)) ∧
    w'.cell? ⟨bx, 8, none⟩ = some (.int .i64 line) ∧ w'.cell? ⟨bx, 9, none⟩ = some (.int .i64 col) ∧ (Instr.lookup 40 (.map (some mb)) (.int .i64 ab) false).run Tryf.prog w' = .ok (.pointer (some ⟨bx, 0, none⟩)) w' := ⟨h.c0, h.c1, h.c2, h.c3, h.c4, h.c5, h.lk⟩
set_option maxRecDepth 100000 in
set_option maxHeartbeats 1600000 in
theorem closure (F : Stop.Interp) (file : ByteArray) (vb fb xb tb mb bx base n : Nat) (v : Value) (xs : List Value) (i ab line col : Int) (w : World) (hF : F.answers w.tape)
    (hv : Blk w vb 28 [v]) (hown : w.ownsRow base 32 1 v n xs) (hn : n ≤ 1000000) (hbase : base ≤ w.heap.size)
    (hS : ∀ W, Fr (fun b => some b = v.ownBlock) w W → CloS file vb fb xb tb mb bx v ab line col W) :
    Calls Tryf.prog 21 #[.int .i64 i, .int .i64 ab, .pointer (some ⟨vb, 0, none⟩), .pointer (some ⟨fb, 0, none⟩), .pointer (some ⟨xb, 0, none⟩)] w fun e w' => e = .returned (.tuple #[]) ∧
      ∃ g cap eb, Blk w' vb 28 [.slice (some ⟨g, 0, none⟩) (n + 1) cap] ∧ w'.ownsRow base 32 1 (.slice (some ⟨g, 0, none⟩) (n + 1) cap) (n + 1) (xs ++ [.pointer (some ⟨eb, 0, none⟩)]) ∧
        (∃ msg : ByteArray, Blk w' eb 36 [.string file, .int .i64 line, .int .i64 col, .string msg, .string ⟨#[]⟩]) ∧ (v.ownBlock = some g ∨ w.heap.size ≤ g) ∧ Fr (fun b => b = vb ∨ some b = v.ownBlock) w w' := by
  obtain ⟨i0, hi0, hz0, hz1, hz2⟩ := info_parts info32
  have hvo : ¬ some vb = v.ownBlock := own_ne hown hv (by decide)
  have hfz := hv.frozen 0
  have hlt := hv.lt
  have HS : Hid (∀ W, Fr (fun b => some b = v.ownBlock) w W → CloS file vb fb xb tb mb bx v ab line col W) := hS
  obtain ⟨s0, s1, s2, s3, s4, s5, s6⟩ := hS w (Fr.refl _ _)
  clear hS
  go_enter Tryf.func21, Tryf.ntmps21
  refine AnyBut.region 19 (CloS file vb fb xb tb mb bx v ab line col) (by kernel_rfl) (HS.out _ ((Fr.refl _ _).drew)) (fun hHeld => ?_)
  refine AnyBut.take (i := 0) (v) rfl (by kernel_rfl) (by kernel_rfl) (by kernel_rfl) (by kernel_rfl) (fun _ _ _ h => h) (Or.inl ⟨by rfl, fun W hW => ?_⟩) hHeld ?_
  · obtain ⟨q0, q1, q2, q3, q4, q5, q6⟩ := hW
    go_simp
  try simp only [Act.put, List.setIfInBounds_toArray, List.set_cons_zero, List.set_cons_succ]
  refine AnyBut.take (i := 1) (.string file) rfl (by kernel_rfl) (by kernel_rfl) (by kernel_rfl) (by kernel_rfl) (fun _ _ _ h => h) (Or.inl ⟨by rfl, fun W hW => ?_⟩) hHeld ?_
  · obtain ⟨q0, q1, q2, q3, q4, q5, q6⟩ := hW
    go_simp
  try simp only [Act.put, List.setIfInBounds_toArray, List.set_cons_zero, List.set_cons_succ]
  refine AnyBut.take (i := 2) (.pointer (some ⟨tb, 0, none⟩)) rfl (by kernel_rfl) (by kernel_rfl) (by kernel_rfl) (by kernel_rfl) (fun _ _ _ h => h) (Or.inl ⟨by rfl, fun W hW => ?_⟩) hHeld ?_
  · obtain ⟨q0, q1, q2, q3, q4, q5, q6⟩ := hW
    go_simp
  try simp only [Act.put, List.setIfInBounds_toArray, List.set_cons_zero, List.set_cons_succ]
  refine AnyBut.take (i := 3) (.pointer (some ⟨tb, 0, none⟩)) rfl (by kernel_rfl) (by kernel_rfl) (by kernel_rfl) (by kernel_rfl) (fun _ _ _ h => h) (Or.inl ⟨by rfl, fun W hW => ?_⟩) hHeld ?_
  · obtain ⟨q0, q1, q2, q3, q4, q5, q6⟩ := hW
    go_simp
  try simp only [Act.put, List.setIfInBounds_toArray, List.set_cons_zero, List.set_cons_succ]
  refine AnyBut.take (i := 4) (.pointer (some ⟨tb, 1, none⟩)) rfl (by kernel_rfl) (by kernel_rfl) (by kernel_rfl) (by kernel_rfl) (fun _ _ _ h => h) (Or.inl ⟨by rfl, fun W hW => ?_⟩) hHeld ?_
  · obtain ⟨q0, q1, q2, q3, q4, q5, q6⟩ := hW
    go_simp
  try simp only [Act.put, List.setIfInBounds_toArray, List.set_cons_zero, List.set_cons_succ]
  refine AnyBut.take (i := 5) (.map (some mb)) rfl (by kernel_rfl) (by kernel_rfl) (by kernel_rfl) (by kernel_rfl) (fun _ _ _ h => h) (Or.inl ⟨by rfl, fun W hW => ?_⟩) hHeld ?_
  · obtain ⟨q0, q1, q2, q3, q4, q5, q6⟩ := hW
    go_simp
  try simp only [Act.put, List.setIfInBounds_toArray, List.set_cons_zero, List.set_cons_succ]
  refine AnyBut.take (i := 6) (.int .i64 ab) rfl (by kernel_rfl) (by kernel_rfl) (by kernel_rfl) (by kernel_rfl) (fun _ _ _ h => h) (Or.inl ⟨by rfl, fun W hW => ?_⟩) hHeld ?_
  · obtain ⟨q0, q1, q2, q3, q4, q5, q6⟩ := hW
    go_simp
  try simp only [Act.put, List.setIfInBounds_toArray, List.set_cons_zero, List.set_cons_succ]
  refine AnyBut.take (i := 7) (.pointer (some ⟨bx, 0, none⟩)) rfl (by kernel_rfl) (by kernel_rfl) (by kernel_rfl) (by kernel_rfl) (fun _ _ _ h => h) (Or.inl ⟨by rfl, fun W hW => ?_⟩) hHeld ?_
  · obtain ⟨q0, q1, q2, q3, q4, q5, q6⟩ := hW
    go_simp
  try simp only [Act.put, List.setIfInBounds_toArray, List.set_cons_zero, List.set_cons_succ]
  refine AnyBut.take (i := 8) (.pointer (some ⟨bx, 0, none⟩)) rfl (by kernel_rfl) (by kernel_rfl) (by kernel_rfl) (by kernel_rfl) (fun _ _ _ h => h) (Or.inl ⟨by rfl, fun W hW => ?_⟩) hHeld ?_
  · obtain ⟨q0, q1, q2, q3, q4, q5, q6⟩ := hW
    go_simp
  try simp only [Act.put, List.setIfInBounds_toArray, List.set_cons_zero, List.set_cons_succ]
  refine AnyBut.take (i := 9) (.pointer (some ⟨bx, 8, none⟩)) rfl (by kernel_rfl) (by kernel_rfl) (by kernel_rfl) (by kernel_rfl) (fun _ _ _ h => h) (Or.inl ⟨by rfl, fun W hW => ?_⟩) hHeld ?_
  · obtain ⟨q0, q1, q2, q3, q4, q5, q6⟩ := hW
    go_simp
  try simp only [Act.put, List.setIfInBounds_toArray, List.set_cons_zero, List.set_cons_succ]
  refine AnyBut.take (i := 10) (.agg #[.int .i64 line, .int .i64 col]) rfl (by kernel_rfl) (by kernel_rfl) (by kernel_rfl) (by kernel_rfl) (fun _ _ _ h => h) (Or.inl ⟨by rfl, fun W hW => ?_⟩) hHeld ?_
  · obtain ⟨q0, q1, q2, q3, q4, q5, q6⟩ := hW
    go_simp
  try simp only [Act.put, List.setIfInBounds_toArray, List.set_cons_zero, List.set_cons_succ]
  refine AnyBut.take (i := 11) (.int .i64 i) rfl (by kernel_rfl) (by kernel_rfl) (by kernel_rfl) (by kernel_rfl) (fun _ _ _ h => h) (Or.inl ⟨by rfl, fun W hW => ?_⟩) hHeld ?_
  · obtain ⟨q0, q1, q2, q3, q4, q5, q6⟩ := hW
    go_simp
  try simp only [Act.put, List.setIfInBounds_toArray, List.set_cons_zero, List.set_cons_succ]
  refine AnyBut.take (i := 12) (.iface 3 (.int .i64 i)) rfl (by kernel_rfl) (by kernel_rfl) (by kernel_rfl) (by kernel_rfl) (fun _ _ _ h => h) (Or.inl ⟨by rfl, fun W hW => ?_⟩) hHeld ?_
  · obtain ⟨q0, q1, q2, q3, q4, q5, q6⟩ := hW
    go_simp
  try simp only [Act.put, List.setIfInBounds_toArray, List.set_cons_zero, List.set_cons_succ]
  refine AnyBut.take (i := 13) (.int .i64 ab) rfl (by kernel_rfl) (by kernel_rfl) (by kernel_rfl) (by kernel_rfl) (fun _ _ _ h => h) (Or.inl ⟨by rfl, fun W hW => ?_⟩) hHeld ?_
  · obtain ⟨q0, q1, q2, q3, q4, q5, q6⟩ := hW
    go_simp
  try simp only [Act.put, List.setIfInBounds_toArray, List.set_cons_zero, List.set_cons_succ]
  refine AnyBut.take (i := 14) (.iface 3 (.int .i64 ab)) rfl (by kernel_rfl) (by kernel_rfl) (by kernel_rfl) (by kernel_rfl) (fun _ _ _ h => h) (Or.inl ⟨by rfl, fun W hW => ?_⟩) hHeld ?_
  · obtain ⟨q0, q1, q2, q3, q4, q5, q6⟩ := hW
    go_simp
  try simp only [Act.put, List.setIfInBounds_toArray, List.set_cons_zero, List.set_cons_succ]
  refine AnyBut.step (i := 15) (by kernel_rfl) rfl (fun K hK => ?_)
  go_simp
  refine hK.out _ _ (HS.out _ ?_) (fun hHeld => ?_)
  · repeat (first | exact Fr.refl _ _ | refine Fr.drew ?_ | refine Fr.alloc ?_ _ | refine Fr.drewN ?_ _ | refine Fr.trans ?_ (Fr.of_below hb1 _) | refine Fr.trans ?_ (Fr.of_grown hgrow))
  clear hK K
  try simp only [Act.put, List.setIfInBounds_toArray, List.set_cons_zero, List.set_cons_succ]
  refine AnyBut.step (i := 16) (by kernel_rfl) rfl (fun K hK => ?_)
  go_simp
  refine (errorf2 F file _ line col w.heap.size i ab _ ?_ ?_ ?_ ?_ ?_ ?_).mono ?_
  · exact hF
  · kernel_rfl
  · intro W; kernel_rfl
  · go_simp
  · go_simp
  · go_simp
  rintro e w1 ⟨msg, rfl, hbk, hb1, -⟩
  refine hK.out _ _ (HS.out _ ?_) (fun hHeld => ?_)
  · repeat (first | exact Fr.refl _ _ | refine Fr.drew ?_ | refine Fr.alloc ?_ _ | refine Fr.drewN ?_ _ | refine Fr.trans ?_ (Fr.of_below hb1 _) | refine Fr.trans ?_ (Fr.of_grown hgrow))
  clear hK K
  try simp only [Act.put, List.setIfInBounds_toArray, List.set_cons_zero, List.set_cons_succ]
  refine AnyBut.step (i := 17) (by kernel_rfl) rfl (fun K hK => ?_)
  go_simp
  refine hK.out _ _ (HS.out _ ?_) (fun hHeld => ?_)
  · repeat (first | exact Fr.refl _ _ | refine Fr.drew ?_ | refine Fr.alloc ?_ _ | refine Fr.drewN ?_ _ | refine Fr.trans ?_ (Fr.of_below hb1 _) | refine Fr.trans ?_ (Fr.of_grown hgrow))
  clear hK K
  try simp only [Act.put, List.setIfInBounds_toArray, List.set_cons_zero, List.set_cons_succ]
  refine AnyBut.stepW (i := 18) (by kernel_rfl) rfl (fun K hK => ?_)
  refine wp_append_lies _ _ _ _ (by rfl) base 32 i0 _ 1 8 Tryf.underlying28 hi0 hz0 hz1 hz2 rfl (by omega) v n xs (by rfl) ?_ ⟨w1.heap.size, 0, none⟩ 1 1 [.pointer (some ⟨w.heap.size + 1 + 1, 0, none⟩)] (by rfl) (by rfl) (cell_one_new _ _ _) (by simp [Value.oneCell']) (by omega) (by unfold maxLen; omega) (by omega) ?_ (w1.heap.size + 1) (by simp) ?_
  · refine own_fr hown (X := fun _ => False) ?_ (fun _ _ h => h)
    repeat (first | exact Fr.refl _ _ | refine Fr.drew ?_ | refine Fr.alloc ?_ _ | refine Fr.drewN ?_ _ | refine Fr.trans ?_ (Fr.of_below hb1 _) | refine Fr.trans ?_ (Fr.of_grown hgrow))
  · have := hb1.size; simp at this ⊢; omega
  intro g cap w2 hown2 hgrow hat hlt2
  refine hK.out _ _ (HS.out _ ?_) (fun hHeld => ?_)
  · repeat (first | exact Fr.refl _ _ | refine Fr.drew ?_ | refine Fr.alloc ?_ _ | refine Fr.drewN ?_ _ | refine Fr.trans ?_ (Fr.of_below hb1 _) | refine Fr.trans ?_ (Fr.of_grown hgrow))
  clear hK K
  try simp only [Act.put, List.setIfInBounds_toArray, List.set_cons_zero, List.set_cons_succ]
  have hv2 := (((hv.alloc (.cells #[.iface 3 (.int .i64 i), .iface 3 (.int .i64 ab)] 20)).drew.fr (Fr.of_below hb1 (fun _ => False)) (fun x => x)).alloc (.cells #[.pointer (some ⟨w.heap.size + 1 + 1, 0, none⟩)] 32)).fr (Fr.of_grown hgrow) hvo
  have hfz2 := hv2.frozen 0
  have hc2 := hv2.cell (i := 0) rfl
  refine AnyBut.last (by kernel_rfl) rfl (by kernel_rfl) (fun K hK => ?_)
  go_simp
  refine hK.out _ _ ?_
  clear hK K
  go_wp2
  go_end0
  have hs1 : w.heap.size + 1 ≤ w1.heap.size := by have := hb1.size; simp at this; omega
  have hol : ∀ b, some b = v.ownBlock → b < w.heap.size := fun b hb => own_lt hown hb
  have hbk1 : Blk w1 (w.heap.size + 1 + 1) 36 [.string file, .int .i64 line, .int .i64 col, .string msg, .string ⟨#[]⟩] := by simpa using hbk
  have hbk2 := (hbk1.alloc (.cells #[.pointer (some ⟨w.heap.size + 1 + 1, 0, none⟩)] 32)).fr (Fr.of_grown hgrow) (fun e => by have := hol _ e; omega)
  refine ⟨rfl, g, cap, w.heap.size + 1 + 1, hv2.set 0 _, own_fr hown2 ((Fr.refl (fun b => b = vb) w2).setCell (Or.inl rfl) _) (fun b hb e => own_ne hown2 hv2 (by decide) (e ▸ hb)),
    ⟨msg, hbk2.set_other (p := ⟨vb, 0, none⟩) (hbk2.ne hv2 (by decide)) _⟩, hat.imp id (fun e => by omega), ?_⟩
  refine Fr.setCell ?_ (Or.inl (Or.inl rfl)) _
  refine Fr.trans ?_ ((Fr.of_grown hgrow).mono (fun b _ h => Or.inr h))
  repeat (first | exact Fr.refl _ _ | refine Fr.drew ?_ | refine Fr.alloc ?_ _ | refine Fr.drewN ?_ _ | refine Fr.trans ?_ (Fr.of_below hb1 _))
end Go.Proofs.Qxb6616573aFmt
