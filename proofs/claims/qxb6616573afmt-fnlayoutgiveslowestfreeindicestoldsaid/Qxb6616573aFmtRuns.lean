import Derived.Test.Qxb6616573aFmtEnv
namespace Go.Proofs.Qxb6616573aFmt
open Go.RowKit
open Go.Extern.Stop Go.Stop Go.Extern
set_option linter.unusedVariables false
set_option linter.unusedSimpArgs false
theorem Fr.step {X Y : Nat → Prop} {a b c : World} (h : Fr X a b) (k : Fr Y b c) (hxy : ∀ i, i < a.heap.size → Y i → X i) : Fr X a c :=
  ⟨k.os.trans h.os, k.tape.trans h.tape, k.output.trans h.output, Nat.le_trans h.size k.size, fun i hi hx => (k.block i (Nat.lt_of_lt_of_le hi h.size) (fun hy => hx (hxy i hi hy))).trans (h.block i hi hx)⟩
def gapPs (L : List Nat) : List (Int × Int) := L.map fun (a : Nat) => ((a : Int), (0 : Int))
set_option maxRecDepth 100000 in
set_option maxHeartbeats 1600000 in
theorem emptyRuns (F : Stop.Interp) (file : ByteArray) (vb fb xb tb mb n base sb kb m c : Nat) (zs : List Int) (bt : Int → Nat) (T : Nat → Bool) (one : Int) (v : Value) (ps : List (Int × Int)) (w : World) (hF : F.answers w.tape)
    (hs : Space w sb kb m T ((c : Int) - 1) one) (henv : Env w file fb xb tb mb n zs bt) (herr : Errs w vb base file v ps) (hbase : base ≤ w.heap.size)
    (hcm : c < m) (hm : m ≤ 100000) (hps : ps.length ≤ 500000) (hc : c = 0 ∨ T (c - 1) = true) (hgap : ∀ i a, i < a → a < c → T i = false → T a = true → (a : Int) ∈ zs) :
    Calls Tryf.prog 20 #[.pointer (some ⟨sb, 0, none⟩), .int .i64 0, .func (.func 21) #[] #[.pointer (some ⟨vb, 0, none⟩), .pointer (some ⟨fb, 0, none⟩), .pointer (some ⟨xb, 0, none⟩)]] w fun e w' => e = .returned (.tuple #[]) ∧
      ∃ v' L, Errs w' vb base file v' (ps ++ gapPs L) ∧ IsGaps T c 0 L ∧ L.length ≤ c ∧ (∀ g, some g = v'.ownBlock → some g = v.ownBlock ∨ w.heap.size ≤ g) ∧ Fr (fun b => b = vb ∨ some b = v.ownBlock) w w' := by
  go_enter Tryf.func20, Tryf.ntmps20
  go_wp2
  go_loopg [6, 7] c (fun g s6 s7 wr => ∃ (i : Nat) (L : List Nat) (v1 : Value), i ≤ c ∧ g = c - i ∧ s6 = .int .i64 i ∧ Errs wr vb base file v1 (ps ++ gapPs L) ∧ L.length ≤ i ∧ (∀ L2, IsGaps T c i L2 → IsGaps T c 0 (L ++ L2)) ∧
      (∀ g, some g = v1.ownBlock → some g = v.ownBlock ∨ w.heap.size ≤ g) ∧ Fr (fun b => b = vb ∨ some b = v.ownBlock) w wr)
  case atStart => exact ⟨0, [], v, Nat.zero_le _, rfl, rfl, by simpa [gapPs] using herr, Nat.le_refl _, fun L2 h => h, fun g hg => Or.inl hg, Fr.refl _ _⟩
  case round =>
    obtain ⟨i, L, v1, hi, rfl, rfl, he1, hL, hgp, hown1, hfr⟩ := hrel
    obtain ⟨es0, ho0, _, _⟩ := herr.list
    have hs1 := hs.err herr.var ho0 hfr
    have henv1 := henv.err herr.var ho0 hfr
    have hF1 : F.answers wr.tape := by rw [hfr.tape]; exact hF
    by_cases hlt : i < c
    · cases hT : T i with
      | true =>
        have c0 := hs1.blk.cell (i := 0) rfl
        have ck := hs1.row.cell (i := i) (by omega)
        rw [hT] at ck
        have hz : (i : Int) < (m : Int) := by omega
        go_wp2_with (go_at_call 19; refine (scount sb kb m T _ one _ hs1 (by omega) (by omega)).mono ?_; rintro e w1 ⟨rfl, hw1⟩; have hw1 := hw1.symm; subst hw1)
        go_roundg (c - (i + 1))
        case measure => omega
        case rel => exact ⟨i + 1, L, v1, by omega, rfl, by go_num, he1, by omega, fun L2 h => hgp L2 (IsGaps.taken hT h), hown1, hfr⟩
      | false =>
        obtain ⟨A, hA1, hA2, hA3, hA4⟩ := next_taken hlt hT (hc.resolve_left (by omega))
        have c0 := hs1.blk.cell (i := 0) rfl
        have ck := hs1.row.cell (i := i) (by omega)
        rw [hT] at ck
        have hz : (i : Int) < (m : Int) := by omega
        go_wp2_with (go_at_call 19; refine (scount sb kb m T _ one _ hs1 (by omega) (by omega)).mono ?_; rintro e w1 ⟨rfl, hw1⟩; have hw1 := hw1.symm; subst hw1)
        go_loopg [7] (A - (i + 1)) (fun g s7 wx => wx = wr ∧ ∃ a : Nat, i + 1 ≤ a ∧ a ≤ A ∧ g = A - a ∧ s7 = .int .i64 a)
        case atStart => exact ⟨rfl, i + 1, Nat.le_refl _, by omega, rfl, by go_num⟩
        case round =>
          obtain ⟨rfl, a, ha1, ha2, rfl, rfl⟩ := hrel
          have c0 := hs1.blk.cell (i := 0) rfl
          have ca := hs1.row.cell (i := a) (by omega)
          have hza : (a : Int) < (m : Int) := by omega
          by_cases haA : a < A
          · rw [hA4 a (by omega) haA] at ca
            go_wp2
            go_roundg (A - (a + 1))
            case measure => omega
            case rel => exact ⟨rfl, a + 1, by omega, by omega, rfl, by go_num⟩
          · have haA2 : a = A := by omega
            subst haA2
            rw [hA3] at ca
            obtain ⟨es1, ho1, hl1, h31⟩ := he1.list
            have hmem := hgap i a hA1 hA2 hT hA3
            have hwf : (Lit.int .i64 (a : Int)).wf = true := wf_i64 (by omega) (by omega)
            have hlen : (ps ++ gapPs L).length ≤ 1000000 := by simp [gapPs]; omega
            go_wp2_with fail
            refine (closure F file vb fb xb tb mb (bt a) base _ v1 _ i a a 0 _ hF1 he1.var ho1 hlen (Nat.le_trans hbase hfr.size) (henv1.cloS he1.var ho1 hmem hwf)).mono ?_
            rintro e w1 ⟨rfl, g, cap, eb, hv', hown', hmsg, hat, hfr'⟩
            have he2 := Errs.more es1 h31 hl1 ho1 he1.var hv' hown' hmsg hfr'
            have hfr2 : Fr (fun b => b = vb ∨ some b = v.ownBlock) w w1 := hfr.step hfr' (fun b hb hx => by
              rcases hx with hx | hx
              · exact Or.inl hx
              · rcases hown1 b hx with h | h
                · exact Or.inr h
                · omega)
            go_wp2
            go_roundg (c - (a + 1))
            case measure => omega
            case rel =>
              refine ⟨a + 1, L ++ [a], .slice (some ⟨g, 0, none⟩) ((ps ++ gapPs L).length + 1) cap, by omega, rfl, by go_num, ?_, by simp; omega, fun L2 h => ?_, ?_, hfr2⟩
              · have e3 : ps ++ gapPs L ++ [((a : Int), (0 : Int))] = ps ++ gapPs (L ++ [a]) := by simp [gapPs]
                rw [← e3]; exact he2
              · have := hgp (a :: L2) (IsGaps.gap hA1 hA2 hA4 hA3 h)
                simpa using this
              · intro b hb
                simp [Value.ownBlock] at hb
                subst hb
                rcases hat with h | h
                · exact hown1 b h.symm
                · exact Or.inr (Nat.le_trans hfr.size h)
    · have hic : i = c := by omega
      subst hic
      go_wp2_with (go_at_call 19; refine (scount sb kb m T _ one _ hs1 (by omega) (by omega)).mono ?_; rintro e w1 ⟨rfl, hw1⟩; have hw1 := hw1.symm; subst hw1)
      go_end0
      exact ⟨rfl, v1, L, he1, by simpa using hgp [] (fun j h1 h2 => by omega), hL, hown1, hfr⟩
end Go.Proofs.Qxb6616573aFmt
