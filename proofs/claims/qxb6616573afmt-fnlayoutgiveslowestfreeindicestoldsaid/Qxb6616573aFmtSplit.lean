import Derived.Test.Qxb6616573aFmtSort
import Derived.Deep.AppendLies
import Derived.Deep.DeepCutAuto
namespace Go.Proofs.Qxb6616573aFmt
open Go.RowKit
set_option linter.unusedVariables false
set_option linter.unusedSimpArgs false
theorem Srt.le {S : List Int} (h : Srt S) {i j : Nat} {x y : Int} (hx : S[i]? = some x) (hy : S[j]? = some y) (hij : i ≤ j) : x ≤ y := by
  obtain ⟨h1, e1⟩ := List.getElem?_eq_some_iff.1 hx
  obtain ⟨h2, e2⟩ := List.getElem?_eq_some_iff.1 hy
  rcases Nat.lt_or_ge i j with hlt | hge
  · have := List.pairwise_iff_getElem.1 h i j h1 h2 hlt
    omega
  · have : i = j := by omega
    subst this
    rw [hx] at hy; cases hy; omega
theorem mem_take_at {S : List Int} {k : Nat} {x : Int} (h : x ∈ S.take k) : ∃ i, i < k ∧ S[i]? = some x := by
  obtain ⟨i, hi⟩ := List.getElem?_of_mem h
  rw [List.getElem?_take] at hi
  split at hi
  · exact ⟨i, ‹_›, hi⟩
  · cases hi
theorem Srt.lt_new {S : List Int} (h : Srt S) {k : Nat} {v : Int} (hv : S[k]? = some v) (hp : k = 0 ∨ ∃ u, S[k - 1]? = some u ∧ u ≠ v) : ∀ x, x ∈ S.take k → x < v := by
  intro x hx
  obtain ⟨i, hi, hxi⟩ := mem_take_at hx
  rcases hp with rfl | ⟨u, hu, hne⟩
  · omega
  · have h1 := h.le hxi hu (by omega)
    have h2 := h.le hu hv (by omega)
    omega
theorem take_next {S : List Int} {k : Nat} {v : Int} (hv : S[k]? = some v) : S.take (k + 1) = S.take k ++ [v] := by rw [List.take_add_one, hv]; rfl
/-- the first k are split -/
structure Split (S : List Int) (k : Nat) (T : Nat → Bool) (over : List Int) : Prop where
  tk : ∀ j : Nat, j < 65535 → T j = decide ((j : Int) ∈ S.take k)
  inc : over.Pairwise (fun a b => a < b)
  mem : ∀ x, x ∈ over ↔ (x ∈ S.take k ∧ 65534 < x)
theorem Split.start (S : List Int) : Split S 0 (fun _ => false) [] := ⟨fun j _ => by simp, List.Pairwise.nil, fun x => by simp⟩
theorem Split.skip {S : List Int} {k : Nat} {T : Nat → Bool} {over : List Int} (h : Split S k T over) {v : Int} (hv : S[k]? = some v) (hk : 0 < k) (hu : S[k - 1]? = some v) : Split S (k + 1) T over := by
  have hm : v ∈ S.take k := List.mem_of_getElem? (i := k - 1) (by rw [List.getElem?_take, if_pos (by omega)]; exact hu)
  have key : ∀ x, x ∈ S.take (k + 1) ↔ x ∈ S.take k := fun x => by
    rw [take_next hv, List.mem_append]
    constructor
    · rintro (h | h)
      · exact h
      · simp at h; rw [h]; exact hm
    · exact Or.inl
  exact ⟨fun j hj => by rw [h.tk j hj]; simp [key], h.inc, fun x => by rw [h.mem x, key]⟩
theorem Split.put {S : List Int} {k : Nat} {T : Nat → Bool} {over : List Int} (h : Split S k T over) {v : Nat} (hv : S[k]? = some (v : Int)) (hs : (v : Int) ≤ 65534) : Split S (k + 1) (fun j => if j = v then true else T j) over := by
  refine ⟨fun j hj => ?_, h.inc, fun x => ?_⟩
  · rw [take_next hv]
    by_cases e : j = v
    · subst e; simp
    · have : ¬ (j : Int) = (v : Int) := by omega
      simp [e, this, h.tk j hj]
  · rw [h.mem x, take_next hv, List.mem_append]
    constructor
    · rintro ⟨a, b⟩; exact ⟨Or.inl a, b⟩
    · rintro ⟨a | a, b⟩
      · exact ⟨a, b⟩
      · simp at a; omega
theorem Split.past {S : List Int} {k : Nat} {T : Nat → Bool} {over : List Int} (h : Split S k T over) {v : Int} (hv : S[k]? = some v) (hs : 65534 < v) (hlt : ∀ x, x ∈ S.take k → x < v) : Split S (k + 1) T (over ++ [v]) := by
  refine ⟨fun j hj => ?_, ?_, fun x => ?_⟩
  · rw [h.tk j hj, take_next hv]
    have : ¬ (j : Int) = v := by omega
    simp [this]
  · rw [List.pairwise_append]
    refine ⟨h.inc, List.pairwise_singleton _ _, fun a ha b hb => ?_⟩
    simp at hb
    rw [hb]
    exact hlt a ((h.mem a).1 ha).1
  · rw [List.mem_append, h.mem x, take_next hv, List.mem_append]
    constructor
    · rintro (⟨a, b⟩ | a)
      · exact ⟨Or.inl a, b⟩
      · simp at a; subst a; exact ⟨Or.inr (by simp), hs⟩
    · rintro ⟨a | a, b⟩
      · exact Or.inl ⟨a, b⟩
      · exact Or.inr a
theorem info3' : (Tryf.prog.info? 3).map (fun i => (i.zero, i.size, i.bytes)) = some (some (.int .i64 0), 1, 8) := by kernel_rfl
def ints (zs : List Int) : List Value := zs.map fun z => .int .i64 z
/-- WHAT zzFixedSplit ANSWERS -/
structure Parted (w w' : World) (zs : List Int) (kb : Nat) (T : Nat → Bool) (ov : Value) (over : List Int) : Prop where
  new : w.heap.size ≤ kb
  bools : Bools w' kb 65535 T
  tk : ∀ j : Nat, j < 65535 → T j = fixB zs j
  own : w'.ownsRow w.heap.size 3 1 ov over.length (ints over)
  inc : over.Pairwise (fun a b => a < b)
  mem : ∀ x, x ∈ over ↔ (x ∈ zs ∧ 65534 < x)
  fr : Fr (fun _ => False) w w'
theorem make_table (n : Nat) (h : n ≤ 1000000) : ∃ arr, (∀ W, (Instr.makeSlice 37 (.int .i64 n) (.int .i64 n)).run Tryf.prog W = .ok (.slice (some ⟨W.heap.size, 0, none⟩) n n) (W.alloc (.cells arr 4))) ∧ ∀ W : World, Bools (W.alloc (.cells arr 4)) W.heap.size n (fun _ => false) :=
  ⟨_, fun W => make37 W n h, fun W => Blk.new W _ 4⟩
set_option maxRecDepth 100000 in
set_option maxHeartbeats 1600000 in
theorem fixedSplit (v : Value) (zs : List Int) (w : World) (hv : IntSl w v zs) (hl : zs.length ≤ 131072) (hz : ∀ x, x ∈ zs → 0 ≤ x) :
    Calls Tryf.prog 11 #[v] w fun e w' => ∃ kb ov, e = .returned (.tuple #[.slice (some ⟨kb, 0, none⟩) 65535 65535, ov]) ∧ ∃ T over, Parted w w' zs kb T ov over := by
  obtain ⟨i0, hi0, hz0, hz1, hz2⟩ := info_parts info3'
  obtain ⟨arr, hmk0, hnew0⟩ := make_table 65535 (by omega)
  have hmk : ∀ W, (Instr.makeSlice 37 (.int .i64 65535) (.int .i64 65535)).run Tryf.prog W = .ok (.slice (some ⟨W.heap.size, 0, none⟩) 65535 65535) (W.alloc (.cells arr 4)) := hmk0
  clear hmk0
  go_enter Tryf.func11, Tryf.ntmps11
  go_wp2_with (go_at_call 12; refine (sortInts v zs _ hv hl).mono ?_; rintro e w1 ⟨b, rfl, hb, S, hS, hSp, hSs, hfr⟩)
  have hnew := hnew0 w1
  have hS2 : IntRow (w1.alloc (.cells arr 4)) b S := Blk.alloc hS _
  have hf2 := hfr.alloc (.cells arr 4)
  have hsz := hfr.size
  have hbl := Blk.lt hS
  have hne : b ≠ w1.heap.size := by omega
  have hSl : S.length = zs.length := hSp.length_eq
  generalize w1.alloc (.cells arr 4) = w2 at *
  generalize w1.heap.size = kb at *
  clear hS hfr hmk hnew0 hbl
  go_loopg [6, 7, 8] zs.length (fun g s6 s7 s8 wr => ∃ (k : Nat) (T : Nat → Bool) (over : List Int), s7 = .int .i64 (k : Int) ∧ g = zs.length - k ∧ k ≤ zs.length ∧ IntRow wr b S ∧ Bools wr kb 65535 T ∧ wr.ownsRow w.heap.size 3 1 s6 over.length (ints over) ∧ over.length ≤ k ∧ Split S k T over ∧ Fr (fun _ => False) w wr ∧ ¬ some b = s6.ownBlock)
  case atStart => exact ⟨0, fun _ => false, [], rfl, rfl, Nat.zero_le _, hS2, hnew, ⟨rfl, Or.inl ⟨rfl, rfl⟩⟩, by simp, Split.start S, hf2, by simp [Value.ownBlock]⟩
  case round =>
    clear hS2 hnew hf2
    obtain ⟨k, T, over, rfl, rfl, hk, hS, hB, hown, hol, hsp, hfr, hvo⟩ := hrel
    by_cases hlt : k < zs.length
    · have hki : ((k : Int) < (zs.length : Int)) := by omega
      have hk0 : (0 : Int) ≤ (k : Int) := by omega
      obtain ⟨x, hx⟩ : ∃ x, S[k]? = some x := ⟨S[k], List.getElem?_eq_getElem (by omega)⟩
      have cx := hS.cell hx
      have hx0 : 0 ≤ x := hz x (hSp.mem_iff.1 (List.mem_of_getElem? hx))
      go_upto_region 8 with fail
      go_cut [32] (fun s32 wc => ∃ c : Bool, s32 = .bool c ∧ wc = wr ∧ (c = true → 0 < k ∧ S[k - 1]? = some x) ∧ (c = false → k = 0 ∨ ∃ u, S[k - 1]? = some u ∧ u ≠ x))
      case first =>
        by_cases h0 : k = 0
        · have hkp : decide (0 < k) = false := by simp; omega
          have H0 : Hid (k = 0) := h0
          clear h0
          go_wp2_with fail
          go_meet
          case rel => exact ⟨false, rfl, rfl, fun h => (by cases h), fun _ => Or.inl H0.out⟩
        · obtain ⟨u, hu⟩ : ∃ u, S[k - 1]? = some u := ⟨S[k - 1], List.getElem?_eq_getElem (by omega)⟩
          have cu := hS.cell hu
          have hkp : ((0 : Int) < (k : Int)) := by omega
          have hk1 : (0 : Int) ≤ (k : Int) - 1 := by omega
          have hk2 : (k : Int) - 1 < (zs.length : Int) := by omega
          have hk3 : ((k : Int) - 1).toNat = k - 1 := by omega
          go_wp2_with fail
          go_meet
          case rel =>
            refine ⟨_, rfl, rfl, fun h => ⟨by omega, ?_⟩, fun h => Or.inr ⟨u, hu, ?_⟩⟩
            · have : u = x := by simpa using h
              rw [← this]; exact hu
            · simpa using h
      case rest =>
        obtain ⟨c, rfl, hwc, hc1, hc2⟩ := hcut
        have hwc := hwc.symm
        subst hwc
        cases c with
        | true =>
          obtain ⟨hkp, hu⟩ := hc1 rfl
          go_wp2_with fail
          go_roundg (zs.length - (k + 1))
          case measure => omega
          case rel => exact ⟨k + 1, T, over, by go_num, rfl, by omega, hS, hB, hown, by omega, hsp.skip hx hkp hu, hfr, hvo⟩
        | false =>
          have hnew := hSs.lt_new hx (hc2 rfl)
          by_cases hs : x ≤ 65534
          · obtain ⟨i, rfl⟩ := Int.eq_ofNat_of_zero_le hx0
            have hi1 : ((i : Int) < 65535) := by omega
            have hi2 : i < 65535 := by omega
            have ck := hB.cell hi2
            have fk := Blk.frozen hB i
            go_wp2_with fail
            go_roundg (zs.length - (k + 1))
            case measure => omega
            case rel => exact ⟨k + 1, _, over, by go_num, rfl, by omega, Blk.set_other hS (p := ⟨kb, i, none⟩) hne _, hB.set true, own_fr hown (Fr.setCell (Fr.refl (fun b => b = kb) wr) (p := ⟨kb, i, none⟩) (Or.inl rfl) _) (fun b hb e => own_ne hown hB (by decide) (e ▸ hb)), by omega, hsp.put hx hs, Fr.setCell hfr (p := ⟨kb, i, none⟩) (Or.inr (by show w.heap.size ≤ kb; omega)) _, hvo⟩
          · have hs2 : ¬ (x ≤ 65534) := hs
            have hlt1 := Blk.lt hS
            have hown1 := own_fr hown ((Fr.refl (fun _ => False) wr).alloc (.cells #[.int .i64 x] 3)) (fun _ _ x => x)
            have hsz2 := hfr.size
            go_wp2_with (at_builtin; refine wpList_append_lies _ (by rfl) _ _ _ (by rfl) w.heap.size 3 i0 _ 1 8 Tryf.underlying22 hi0 hz0 hz1 hz2 rfl (by omega) u6 over.length (ints over) (by rfl) hown1 ⟨wr.heap.size, 0, none⟩ 1 1 [.int .i64 x] (by rfl) (by rfl) (cell_one_new _ _ _) (by simp [Value.oneCell']) (by omega) (by unfold maxLen; omega) (by omega) (by simp; omega) (wr.heap.size + 1) (by simp) ?_; intro g cap w2 hown2 hgrow hat hlt4)
            have hf3 : Fr (fun b => some b = u6.ownBlock) wr w2 := ((Fr.refl (fun b => some b = u6.ownBlock) wr).alloc _).trans (Fr.of_grown hgrow)
            go_roundg (zs.length - (k + 1))
            case measure => omega
            case rel =>
              refine ⟨k + 1, T, over ++ [x], by go_num, rfl, by omega, Blk.fr hS hf3 hvo, Blk.fr hB hf3 (own_ne hown hB (by decide)), by simpa [ints] using hown2, by simp; omega, hsp.past hx (by omega) hnew, hfr.step hf3 (fun i hi e => by have := own_ge' hown e; omega), ?_⟩
              intro e
              simp [Value.ownBlock] at e
              subst e
              rcases hat with e | e
              · exact hvo e.symm
              · omega
    · have hki : ¬ ((k : Int) < (zs.length : Int)) := by omega
      have hke : k = zs.length := by omega
      have htk : S.take k = S := by rw [List.take_of_length_le (by omega)]
      go_wp2_with fail
      go_ret2
      refine ⟨kb, u6, rfl, T, over, by omega, hB, fun j hj => ?_, hown, hsp.inc, fun x => ?_, hfr⟩
      · rw [hsp.tk j hj, htk]; unfold fixB; simp [hSp.mem_iff]
      · rw [hsp.mem x, htk, hSp.mem_iff]
end Go.Proofs.Qxb6616573aFmt
