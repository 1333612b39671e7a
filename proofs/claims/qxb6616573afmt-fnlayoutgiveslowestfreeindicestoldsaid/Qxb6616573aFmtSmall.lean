import Derived.Test.Qxb6616573aFmtLay
import Derived.Test.Qxb6616573aFmtNew
import Derived.Laws.CopyRow
namespace Go.Proofs.Qxb6616573aFmt
open Go.RowKit
open Go.Extern.Stop Go.Stop Go.Extern
set_option linter.unusedVariables false
set_option linter.unusedSimpArgs false
theorem info3 : ∃ i, Tryf.prog.info? 3 = some i ∧ i.zero = some (.int .i64 0) ∧ i.size = 1 ∧ i.bytes = 8 := ⟨_, rfl, by kernel_rfl, by kernel_rfl, by kernel_rfl⟩
theorem made_ints (n : Nat) : madeCells #[.int .i64 0] n = ((List.replicate n (0 : Int)).map fun z => Value.int .i64 z).toArray := by
  unfold madeCells
  apply Array.ext'
  simp
  refine List.ext_getElem (by simp) (fun i h1 h2 => by simp [Nat.mod_one])
theorem make22 (w : World) (n : Nat) (h : n ≤ 1000000) : (Instr.makeSlice 22 (.int .i64 n) (.int .i64 n)).run Tryf.prog w =
    .ok (.slice (some ⟨w.heap.size, 0, none⟩) n n) (w.alloc (.cells ((List.replicate n (0 : Int)).map fun z => Value.int .i64 z).toArray 3)) := by
  obtain ⟨i, h1, h2, h3, h4⟩ := info3
  have := run_make (P := Tryf.prog) (w := w) 22 3 i _ Tryf.underlying22 h1 h2 .i64 .i64 n n (by omega) (by omega) (by rw [h4]; omega) (by omega)
  rw [this, h3, Nat.mul_one, Int.toNat_natCast]
  rw [← made_ints]
  rfl
theorem IntRow.new (w : World) (zs : List Int) : IntRow (w.alloc (.cells (zs.map fun z => Value.int .i64 z).toArray 3)) w.heap.size zs := Blk.new w _ 3
set_option maxHeartbeats 800000 in
theorem zzcount {w : World} {tb mb n p pcap : Nat} {pa : Option Addr} {v2 v3 : Value} {zs : List Int} {bt : Int → Nat} {pb : Nat → Nat} {cnt : Int} {built : Bool} {ix : Nat → Int} (h : Table w tb mb n p pcap pa v2 v3 zs bt pb cnt built ix) :
    Calls Tryf.prog 10 #[.pointer (some ⟨tb, 0, none⟩)] w fun e w' => e = .returned (.int .i64 cnt) ∧ w' = w := by
  have c := h.tbl.cell (i := 5) rfl
  go_enter Tryf.func10, Tryf.ntmps10
  go_wp2
  go_ret
  exact ⟨rfl, rfl⟩
set_option maxHeartbeats 800000 in
theorem zzbytes5 (a : Option Addr) (len cap : Nat) (built : Bool) (p : Int) (file : ByteArray) (h : len ≤ 9223372036854775807) (hf : file.size ≤ 9223372036854775807) (w : World) :
    Calls Tryf.prog 5 #[.bool built, .slice a len cap, .int .i64 p, .string file] w fun e w' => e = .returned (.bool (decide (len + file.size ≤ 1048576))) ∧ w' = w := by
  by_cases h1 : len ≤ 1048576
  · by_cases h2 : file.size ≤ 1048576
    · by_cases h3 : len + file.size ≤ 1048576
      all_goals
        simp only [h3, decide_true, decide_false]
        go_enter Tryf.func5, Tryf.ntmps5
        go_wp2
        go_ret
        exact ⟨rfl, rfl⟩
    · have h3 : ¬ len + file.size ≤ 1048576 := by omega
      simp only [h3, decide_true, decide_false]
      go_enter Tryf.func5, Tryf.ntmps5
      go_wp2
      go_ret
      exact ⟨rfl, rfl⟩
  · have h3 : ¬ len + file.size ≤ 1048576 := by omega
    simp only [h3, decide_true, decide_false]
    go_enter Tryf.func5, Tryf.ntmps5
    go_wp2
    go_ret
    exact ⟨rfl, rfl⟩
set_option maxHeartbeats 800000 in
theorem zzbytes13 (a : Option Addr) (len cap : Nat) (built : Bool) (p : Int) (file : ByteArray) (h : len ≤ 9223372036854775807) (hf : file.size ≤ 9223372036854775807) (w : World) :
    Calls Tryf.prog 13 #[.bool built, .slice a len cap, .int .i64 p, .string file] w fun e w' => e = .returned (.bool (decide (len + file.size ≤ 1048576))) ∧ w' = w := by
  by_cases h1 : len ≤ 1048576
  · by_cases h2 : file.size ≤ 1048576
    · by_cases h3 : len + file.size ≤ 1048576
      all_goals
        simp only [h3, decide_true, decide_false]
        go_enter Tryf.func13, Tryf.ntmps13
        go_wp2
        go_ret
        exact ⟨rfl, rfl⟩
    · have h3 : ¬ len + file.size ≤ 1048576 := by omega
      simp only [h3, decide_true, decide_false]
      go_enter Tryf.func13, Tryf.ntmps13
      go_wp2
      go_ret
      exact ⟨rfl, rfl⟩
  · have h3 : ¬ len + file.size ≤ 1048576 := by omega
    simp only [h3, decide_true, decide_false]
    go_enter Tryf.func13, Tryf.ntmps13
    go_wp2
    go_ret
    exact ⟨rfl, rfl⟩
/-- WHAT layout LEAVES, whatever 'built' -/
def Left (w w' : World) (file : ByteArray) (tb mb n p pcap : Nat) (pa : Option Addr) (v2 v3 : Value) (zs : List Int) (bt : Int → Nat) (pb : Nat → Nat) (v : Value) : Prop :=
  ∃ (idx : List Nat) (cnt : Int) (ps : List (Int × Int)), ErrList w' w.heap.size file v ps ∧ Table w' tb mb n p pcap pa v2 v3 zs bt pb cnt true (ixOf idx) ∧ Fr (fun b => b = tb ∨ ∃ k, k < p ∧ b = pb k) w w' ∧ LayoutSpec zs p idx cnt ps
theorem zzlayout_built (F : Stop.Interp) (tb mb n p pcap : Nat) (pa : Option Addr) (v2 v3 : Value) (zs : List Int) (bt : Int → Nat) (pb : Nat → Nat) (file : ByteArray) (w : World) (hF : F.answers w.tape)
    (ht : Table w tb mb n p pcap pa v2 v3 zs bt pb 0 true (fun _ => 0)) (hz : ∀ x, x ∈ zs → 0 ≤ x) (hp : p ≤ 65536) (hzl : zs.length ≤ 131072) :
    Calls Tryf.prog 8 #[.pointer (some ⟨tb, 0, none⟩), .string file] w fun e w' => ∃ v, e = .returned v ∧ Left w w' file tb mb n p pcap pa v2 v3 zs bt pb v := by
  go_enter Tryf.func8, Tryf.ntmps8
  go_wp2_with (go_at_call 14; refine (layout_built F tb mb n p pcap pa v2 v3 zs bt pb file _ hF ht hz hp hzl).mono ?_; rintro e w1 ⟨v, idx, cnt, ps, rfl, h1, h2, h3, h4⟩)
  go_ret
  exact ⟨v, rfl, idx, cnt, ps, h1, h2, h3, h4⟩
theorem zzlayout_not (tb mb n p pcap : Nat) (pa : Option Addr) (v2 v3 : Value) (zs : List Int) (bt : Int → Nat) (pb : Nat → Nat) (file : ByteArray) (w : World)
    (ht : Table w tb mb n p pcap pa v2 v3 zs bt pb 0 false (fun _ => 0)) :
    Calls Tryf.prog 8 #[.pointer (some ⟨tb, 0, none⟩), .string file] w fun e w' => e = .returned (.slice none 0 0) ∧ Fr (fun _ => False) w w' := by
  go_enter Tryf.func8, Tryf.ntmps8
  go_wp2_with (go_at_call 14; refine (layout_not tb p pcap mb pa v2 v3 file _ ht.tbl).mono ?_; rintro e w1 ⟨rfl, h1⟩)
  go_ret
  exact ⟨rfl, Fr.of_below h1 _⟩
set_option maxHeartbeats 800000 in
theorem placedIx {w : World} {tb mb n p pcap : Nat} {pa : Option Addr} {v2 v3 : Value} {zs : List Int} {bt : Int → Nat} {pb : Nat → Nat} {cnt : Int} {built : Bool} {ix : Nat → Int} (h : Table w tb mb n p pcap pa v2 v3 zs bt pb cnt built ix) (hp : p ≤ 65536) :
    Calls Tryf.prog 9 #[.pointer (some ⟨tb, 0, none⟩)] w fun e w' => ∃ b, e = .returned (.slice (some ⟨b, 0, none⟩) p p) ∧ w.heap.size ≤ b ∧ IntRow w' b ((List.range p).map ix) ∧ Fr (fun _ => False) w w' := by
  have c := h.tbl.cell (i := 0) rfl
  have hlt := h.tbl.lt
  have hmk := fun W => make22 W p (by omega)
  have hnew := IntRow.new w (List.replicate p (0 : Int))
  have hfr := (Fr.refl (fun _ => False) w).alloc (.cells ((List.replicate p (0 : Int)).map fun z => Value.int .i64 z).toArray 3)
  have hc2 : (w.alloc (.cells ((List.replicate p (0 : Int)).map fun z => Value.int .i64 z).toArray 3)).cell? ⟨tb, 0, none⟩ = some (.slice pa p pcap) := by rw [hfr.cell (p := ⟨tb, 0, none⟩) hlt (fun x => x)]; exact c
  go_enter Tryf.func9, Tryf.ntmps9
  go_wp2_with fail
  simp only [List.map_replicate, List.toArray_replicate] at hnew hfr
  generalize w.alloc (.cells (Array.replicate p (Value.int .i64 0)) 3) = w1 at *
  go_loopg [4, 5, 17] p (fun g s4 s5 s17 wr => ∃ (k : Nat) (ys : List Int), k ≤ p ∧ g = p - k ∧ s17 = .int .i64 (k : Int) ∧ IntRow wr w.heap.size ys ∧ ys.length = p ∧ (∀ j, j < k → ys[j]? = some (ix j)) ∧ Fr (fun _ => False) w wr)
  case atStart => exact ⟨0, _, Nat.zero_le _, rfl, rfl, hnew, by simp, fun j hj => by omega, hfr⟩
  case round =>
    obtain ⟨k, ys, hk, rfl, rfl, hrow, hlen, hys, hfr⟩ := hrel
    by_cases hlt : k < p
    · have hki : ((k : Int) < (p : Int)) := by omega
      have hk0 : (0 : Int) ≤ (k : Int) := by omega
      obtain ⟨g, vs, rfl, hg, hgk⟩ := h.row k hlt
      have c1 := (hg.fr hfr (fun x => x)).cell hgk
      have c2 := ((h.placed k hlt).fr hfr (fun x => x)).cell (i := 4) rfl
      obtain ⟨y, hy⟩ : ∃ y, ys[k]? = some y := ⟨ys[k], List.getElem?_eq_getElem (by omega)⟩
      have c3 := hrow.cell hy
      have fz := Blk.frozen hrow k
      go_wp2_with fail
      go_roundg (p - (k + 1))
      case measure => omega
      case rel =>
        refine ⟨k + 1, ys.set k (ix k), by omega, rfl, by go_num, hrow.set k (ix k), by simpa using hlen, fun j hj => ?_, Fr.setCell hfr (p := ⟨w.heap.size, k, none⟩) (Or.inr (Nat.le_refl _)) _⟩
        by_cases e : j = k
        · subst e; simp [hlen, hlt]
        · rw [List.getElem?_set_ne (by omega)]; exact hys j (by omega)
    · have hki : ¬ ((k : Int) < (p : Int)) := by omega
      have hke : k = p := by omega
      subst hke
      go_wp2_with fail
      go_ret
      have e : ys = (List.range k).map ix := by
        refine List.ext_getElem? (fun j => ?_)
        by_cases hj : j < k
        · rw [hys j hj]; simp [hj]
        · rw [List.getElem?_eq_none (by omega), List.getElem?_eq_none (by simp; omega)]
      exact ⟨_, rfl, Nat.le_refl _, e ▸ hrow, hfr⟩
/-- WHAT THE WALK IS TOLD OF A SLICE OF INTEGERS THAT CAME IN: nil, or a row of 'cap' cells, the first 'len' its elements. -/
def IsRow (w : World) (a : Option Addr) (len cap : Nat) (zs : List Int) : Prop :=
  (a = none ∧ len = 0 ∧ cap = 0 ∧ zs = []) ∨
  ∃ x, a = some x ∧ len ≤ cap ∧ cap ≤ maxLen ∧ zs.length = cap ∧ (∀ i, i < zs.length → w.cell? (x.add i) = some (.int .i64 (zs.getD i 0))) ∧ ∀ n ∈ zs, (Lit.int .i64 n).wf = true
theorem size3 : (Tryf.prog.info? 3).map (·.size) = some 1 := by kernel_rfl
theorem one_ints (zs : List Int) : ∀ v ∈ zs.map (fun z => Value.int .i64 z), v.oneCell' = true := by
  intro v hv
  simp at hv
  obtain ⟨z, _, rfl⟩ := hv
  rfl
theorem setRow_blk {w : World} {g : Nat} {t : TypeId} {us vs : List Value} (h : Blk w g t us) : Blk (w.setRow g vs.toArray) g t vs := by
  unfold Blk World.setRow at *
  simp only [Array.getElem?_modify, if_pos]
  rw [h]
  rfl
theorem setRow_fr (w : World) (g : Nat) (cs : Array Value) : Fr (fun b => b = g) w (w.setRow g cs) := by
  refine ⟨rfl, rfl, rfl, by simp [World.setRow], fun b hb hx => ?_⟩
  unfold World.setRow
  simp only [Array.getElem?_modify]
  rw [if_neg (fun e => hx (Eq.symm e))]
/-- a copy into a fresh row of the same length -/
theorem copy_into (w : World) (g n : Nat) (x : Addr) (sc : Nat) (us zs : List Int) (hg : IntRow w g us) (hu : us.length = n) (hz : zs.length = n) (hsrc : ∀ j z, zs[j]? = some z → w.cell? (x.add j) = some (.int .i64 z)) :
    ∃ w', (Builtin.copy_ #[22, 22] 3 #[.slice (some ⟨g, 0, none⟩) n n, .slice (some x) n sc]).run Tryf.prog w = .ok (.int .i64 n) w' ∧ IntRow w' g zs ∧ Fr (fun b => b = g) w w' := by
  have hr := run_copy_row (P := Tryf.prog) w 22 22 3 3 g 0 n n x n sc _ 3 (zs.map fun z => Value.int .i64 z) Tryf.underlying22 size3 hg (by simp [hz]) (fun j v hj => by
    simp at hj
    obtain ⟨z, h1, rfl⟩ := hj
    exact hsrc j z h1) (by simp [hu, hz]) (one_ints zs)
  have e : (us.map fun z => Value.int .i64 z).toArray.toList.take 0 ++ (zs.map fun z => Value.int .i64 z) ++ (us.map fun z => Value.int .i64 z).toArray.toList.drop (0 + (zs.map fun z => Value.int .i64 z).length) = zs.map fun z => Value.int .i64 z := by
    simp [hu, hz]
  rw [e] at hr
  refine ⟨w.setRow g (zs.map fun z => Value.int .i64 z).toArray, ?_, setRow_blk hg, setRow_fr _ _ _⟩
  rw [hr]
  simp [goInt, hz]
set_option maxHeartbeats 800000 in
theorem clone (a : Option Addr) (len cap : Nat) (zs : List Int) (w : World) (h : IsRow w a len cap zs) (hl : len ≤ 131072) :
    Calls Tryf.prog 6 #[.slice a len cap] w fun e w' => ∃ v, e = .returned v ∧ IntSl w' v (zs.take len) ∧ Fr (fun _ => False) w w' := by
  rcases h with ⟨rfl, rfl, rfl, rfl⟩ | ⟨x, rfl, hlc, hm, hz, hcell, hwz⟩
  · have he : ∀ w : World, (binOp .eql 22 (.slice none 0 0) (.slice none 0 0)).run Tryf.prog w = .ok (.bool true) w := fun _ => rfl
    go_enter Tryf.func6, Tryf.ntmps6
    go_wp2
    go_ret
    exact ⟨_, rfl, Or.inl ⟨rfl, rfl⟩, Fr.refl _ _⟩
  · have hmk := fun W => make22 W len (by omega)
    have he : ∀ w : World, (binOp .eql 22 (.slice (some x) len cap) (.slice none 0 0)).run Tryf.prog w = .ok (.bool false) w := fun _ => rfl
    have hnew := IntRow.new w (List.replicate len (0 : Int))
    have hfr := (Fr.refl (fun _ => False) w).alloc (.cells ((List.replicate len (0 : Int)).map fun z => Value.int .i64 z).toArray 3)
    obtain ⟨w2, hcp, hrow, hf2⟩ := copy_into _ w.heap.size len x cap _ (zs.take len) hnew (by simp) (by simp; omega) (fun j z hj => by
      have hj2 : j < len ∧ zs[j]? = some z := by
        rw [List.getElem?_take] at hj
        split at hj
        · exact ⟨‹_›, hj⟩
        · cases hj
      have hc := hcell j (by omega)
      have hd : zs.getD j 0 = z := by simp [hj2.2]
      rw [hd] at hc
      have hlt := World.block_lt_of_cell? _ _ hc
      rw [hfr.cell hlt (fun x => x)]
      exact hc)
    simp only [List.map_replicate, List.toArray_replicate] at hcp hf2 hfr
    go_enter Tryf.func6, Tryf.ntmps6
    go_wp2
    go_ret
    refine ⟨_, rfl, Or.inr ⟨w.heap.size, ?_, hrow⟩, ?_⟩
    · rw [show (zs.take len).length = len by simp; omega]; rfl
    · exact hfr.step hf2 (fun i hi e => by omega)
end Go.Proofs.Qxb6616573aFmt
