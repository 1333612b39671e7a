import Derived.Test.Qxb6616573aFmtLaid
namespace Go.Proofs.Qxb6616573aFmt
open Go.RowKit
open Go.Extern.Stop Go.Stop Go.Extern
set_option linter.unusedVariables false
set_option linter.unusedSimpArgs false
set_option maxRecDepth 100000 in
set_option maxHeartbeats 1600000 in
theorem layout_built (F : Stop.Interp) (tb mb n p pcap : Nat) (pa : Option Addr) (v2 v3 : Value) (zs : List Int) (bt : Int → Nat) (pb : Nat → Nat) (file : ByteArray) (w : World) (hF : F.answers w.tape)
    (ht : Table w tb mb n p pcap pa v2 v3 zs bt pb 0 true (fun _ => 0)) (hz : ∀ x, x ∈ zs → 0 ≤ x) (hp : p ≤ 65536) (hzl : zs.length ≤ 131072) :
    Calls Tryf.prog 14 #[.pointer (some ⟨tb, 0, none⟩), .string file] w fun e w' => ∃ (v : Value) (idx : List Nat) (cnt : Int) (ps : List (Int × Int)), e = .returned v ∧ ErrList w' w.heap.size file v ps ∧
      Table w' tb mb n p pcap pa v2 v3 zs bt pb cnt true (ixOf idx) ∧ Fr (fun b => b = tb ∨ ∃ k, k < p ∧ b = pb k) w w' ∧ LayoutSpec zs p idx cnt ps := by
  have c6 := ht.tbl.cell (i := 6) rfl
  have c1 := ht.tbl.cell (i := 1) rfl
  have hlt := ht.tbl.lt
  have hm3 := (((ht.map.fr ((Fr.refl (fun _ => False) w).alloc (.cells #[.pointer (some ⟨tb, 0, none⟩)] 25)) (fun x => x)).fr ((Fr.refl (fun _ => False) _).alloc (.cells #[.string file] 9)) (fun x => x)).fr ((Fr.refl (fun _ => False) _).alloc (.cells #[.slice none 0 0] 28)) (fun x => x))
  have hlt1 : tb < w.heap.size + 1 := by omega
  have hlt2 : tb < w.heap.size + 1 + 1 := by omega
  have hlt3 : tb < w.heap.size + 2 := by omega
  go_enter Tryf.func14, Tryf.ntmps14
  go_wp2_with (at_range; refine wpList_range_boot _ (by rfl) _ (by rfl) mb n zs bt (by rfl) hm3 ?_; intro w1 cnt hr1 hf1)
  go_frame
  have hW : Fr (fun _ => False) w w1 := (((Fr.refl (fun _ => False) w).alloc (.cells #[.pointer (some ⟨tb, 0, none⟩)] 25)).alloc (.cells #[.string file] 9)).alloc (.cells #[.slice none 0 0] 28) |>.trans hf1
  have hbx : Blk w1 w.heap.size 25 [.pointer (some ⟨tb, 0, none⟩)] := (((Blk.new w [.pointer (some ⟨tb, 0, none⟩)] 25).alloc (.cells #[.string file] 9)).alloc (.cells #[.slice none 0 0] 28)).fr hf1 (fun x => x)
  have hbf : Blk w1 (w.heap.size + 1) 9 [.string file] := by
    have := ((Blk.new (w.alloc (.cells #[.pointer (some ⟨tb, 0, none⟩)] 25)) [.string file] 9).alloc (.cells #[.slice none 0 0] 28)).fr hf1 (fun x => x)
    simpa using this
  have hbv : Blk w1 (w.heap.size + 1 + 1) 28 [.slice none 0 0] := by
    have := (Blk.new ((w.alloc (.cells #[.pointer (some ⟨tb, 0, none⟩)] 25)).alloc (.cells #[.string file] 9)) [.slice none 0 0] 28).fr hf1 (fun x => x)
    simpa using this
  have hr1e : w.heap.size + 1 + 1 < (((w.alloc (.cells #[.pointer (some ⟨tb, 0, none⟩)] 25)).alloc (.cells #[.string file] 9)).alloc (.cells #[.slice none 0 0] 28)).heap.size := by simp
  generalize (((w.alloc (.cells #[.pointer (some ⟨tb, 0, none⟩)] 25)).alloc (.cells #[.string file] 9)).alloc (.cells #[.slice none 0 0] 28)).heap.size = r1 at *
  have henv : Env w1 file (w.heap.size + 1) w.heap.size tb mb n zs bt := ⟨hbf, hbx, hr1.map, fun x hx => (ht.boots x hx).fr hW (fun x => x), by rw [hW.cell (p := ⟨tb, 1, none⟩) hlt (fun x => x)]; exact c1, _, ht.tbl.fr hW (fun x => x)⟩
  have herr : Errs w1 (w.heap.size + 1 + 1) w.heap.size file (.slice none 0 0) [] := ⟨hbv, ErrList.nil _ _ _⟩
  have ht1 : Table w1 tb mb n p pcap pa v2 v3 zs bt pb 0 true (fun _ => 0) := ht.fr hW (fun x => x) (fun x => x) (fun _ _ x => x) (fun _ _ _ x => x) (fun _ _ x => x)
  have hF1 : F.answers w1.tape := by rw [hW.tape]; exact hF
  clear hm3 c1 c6 hlt1 hlt2 hlt3 hbx hbf hbv hf1
  have hv0 : w.heap.size < w.heap.size + 1 + 1 := by omega
  have hf0 : w.heap.size < w.heap.size + 1 := by omega
  generalize w.heap.size + 1 + 1 = vb at *
  generalize w.heap.size + 1 = fb at *
  go_loopg [6, 7] cnt (fun g s6 s7 wr => ∃ (lim : Int) (left : Int → Bool), s6 = .int .i64 lim ∧ RangeAt wr mb r1 n zs bt left g ∧ Fr (fun b => b = r1) w1 wr ∧ -1 ≤ lim ∧ lim ≤ 65534 ∧ (lim = -1 ∨ lim ∈ zs) ∧ ∀ x, x ∈ zs → x ≤ 65534 → left x = false → x ≤ lim)
  case atStart => exact ⟨-1, _, rfl, hr1, Fr.refl _ _, by omega, by omega, Or.inl rfl, fun x hx _ hl => by simp [hx] at hl⟩
  case round =>
    obtain ⟨lim, left, rfl, hrg, hfr, hlim⟩ := hrel
    have hl0 := hlim.1
    have hl1 := hlim.2.1
    have HL : Hid (-1 ≤ lim ∧ lim ≤ 65534 ∧ (lim = -1 ∨ lim ∈ zs) ∧ ∀ x, x ∈ zs → x ≤ 65534 → left x = false → x ≤ lim) := hlim
    clear hlim
    go_wp2_with (at_next; refine wpList_next_boot _ (by rfl) _ (by rfl) mb r1 n zs bt left _ (by rfl) hrg ?_ ?_)
    case refine_2 =>
      intro x w2 cnt2 hx hlx hrg2 hlt2 hfr2 hen
      have hx0 := hz x hx
      go_wp2
      all_goals
        go_roundg cnt2
        case measure => exact hlt2
        case rel => exact ⟨_, _, rfl, hrg2, hfr.trans hfr2, lim_step HL.out hx (by omega)⟩
    intro hdone
    have hlim : IsLimit zs lim := by
      obtain ⟨a1, a2, a3, a4⟩ := HL.out
      exact ⟨a1, a2, a3, fun x hx h => a4 x hx h (hdone x)⟩
    have herr1 := herr
    have c0 := ht1.tbl.cell (i := 0) rfl
    have c1 := ht1.tbl.cell (i := 1) rfl
    have cx := henv.box.cell (i := 0) rfl
    have hn1 : ¬ tb = r1 := fun e => hr1.ne_blk ht1.tbl e.symm
    have hn2 : ¬ w.heap.size = r1 := fun e => hr1.ne_blk henv.box e.symm
    have d0 : wr.cell? ⟨tb, 0, none⟩ = some (.slice pa p pcap) := by rw [hfr.cell (p := ⟨tb, 0, none⟩) ht1.tbl.lt hn1]; exact c0
    have dx : wr.cell? ⟨w.heap.size, 0, none⟩ = some (.pointer (some ⟨tb, 0, none⟩)) := by rw [hfr.cell (p := ⟨w.heap.size, 0, none⟩) henv.box.lt hn2]; exact cx
    have hF2 : F.answers wr.tape := by rw [hfr.tape]; exact hF1
    have henv2 : Env wr file fb w.heap.size tb mb n zs bt := henv.fr hfr (fun e => hr1.ne_blk henv.file e.symm) hn2 hr1.ne_map (fun x hx e => hr1.ne_blk (henv.boots x hx) e.symm) hn1
    have herr2 : Errs wr vb w.heap.size file (.slice none 0 0) [] := ⟨herr.var.fr hfr (fun e => hr1.ne_blk herr.var e.symm), ErrList.nil _ _ _⟩
    have ht2 : Table wr tb mb n p pcap pa v2 v3 zs bt pb 0 true (fun _ => 0) := ht1.fr hfr hn1 hr1.ne_map (fun x hx e => hr1.ne_blk (ht1.boots x hx) e.symm) (fun g vs hg e => hr1.ne_blk hg e.symm) (fun k hk e => hr1.ne_blk (ht1.placed k hk) e.symm)
    have hW2 : Fr (fun _ => False) w wr := hW.step hfr (fun i hi e => by omega)
    clear herr henv ht1 hF1 hr1 hfr hrg HL c0 c1 cx hn1 hn2 hW
    have hl0 := hlim.lo
    have hl1 := hlim.hi
    go_upto_region 10 with fail
    go_cut [8] (fun s8 wc => ∃ (sb kb m : Nat), (m : Int) = min (lim + p) 65534 + 2 ∧ s8 = .pointer (some ⟨sb, 0, none⟩) ∧ Space wc sb kb m (fun _ => false) (-1) 0 ∧ Below wr.heap.size wr wc ∧ wr.heap.size ≤ sb ∧ wr.heap.size ≤ kb)
    case first =>
      go_wp2_with fail
      · refine (newspace' 65534 (by omega) (by omega) _).mono ?_
        rintro e w3 ⟨m, hm, rfl, hsp, hbel⟩
        go_wp2
        go_meet
        case rel => exact ⟨wr.heap.size + 1, wr.heap.size, m, by omega, rfl, hsp, hbel, by omega, by omega⟩
      · refine (newspace' (lim + p) (by omega) (by omega) _).mono ?_
        rintro e w3 ⟨m, hm, rfl, hsp, hbel⟩
        go_wp2
        go_meet
        case rel => exact ⟨wr.heap.size + 1, wr.heap.size, m, by omega, rfl, hsp, hbel, by omega, by omega⟩
    case rest =>
      obtain ⟨sb, kb, m, hm, rfl, hsp, hbel, hsb, hkb⟩ := hcut
      have hfc : Fr (fun _ => False) wr wc := Fr.of_below hbel _
      have hF3 : F.answers wc.tape := by rw [hfc.tape]; exact hF2
      have henv3 : Env wc file fb w.heap.size tb mb n zs bt := henv2.fr hfc (fun x => x) (fun x => x) (fun x => x) (fun _ _ x => x) (fun x => x)
      have herr3 : Errs wc vb w.heap.size file (.slice none 0 0) [] := ⟨herr2.var.fr hfc (fun x => x), ErrList.nil _ _ _⟩
      have ht3 : Table wc tb mb n p pcap pa v2 v3 zs bt pb 0 true (fun _ => 0) := ht2.fr hfc (fun x => x) (fun x => x) (fun _ _ x => x) (fun _ _ _ x => x) (fun _ _ x => x)
      have hW3 : Fr (fun _ => False) w wc := hW2.trans hfc
      have hwr := hW2.size
      have hst3 : St w file fb w.heap.size vb tb mb n p pcap sb kb m pa v2 v3 zs bt pb wc (fun _ => false) (-1) 0 (.slice none 0 0) [] (fun _ => 0) :=
        ⟨henv3, ht3, hsp, herr3, hW3.mono (fun _ _ h => h.elim), by omega, by omega, by omega⟩
      clear herr2 henv2 ht2 hF2 hW2 hfc hbel d0 dx herr3 hsp
      have cx := henv3.box.cell (i := 0) rfl
      have c1 := henv3.field
      go_wp2_with (at_range; refine wpList_range_boot _ (by rfl) _ (by rfl) mb n zs bt (by rfl) henv3.map ?_; intro w4 cnt4 hr4 hf4)
      go_frame
      have hst4 := hst3.space (hf4.mono (fun _ _ h => h.elim)) (hst3.sp.fr hf4 (fun x => x) (fun x => x))
      have hr2 : w.heap.size ≤ wc.heap.size := hW3.size
      clear henv3 ht3 hW3 hst3 hf4 cx c1
      generalize wc.heap.size = r2 at *
      go_loopg [9, 10] cnt4 (fun g s9 s10 wr => ∃ (left : Int → Bool) (T : Nat → Bool) (last : Int) (v : Value) (ov : List Int), RangeAt wr mb r2 n zs bt left g ∧
        St w file fb w.heap.size vb tb mb n p pcap sb kb m pa v2 v3 zs bt pb wr T last 0 v (ov.map fun x => (x, (0 : Int))) (fun _ => 0) ∧ Took zs left T last ov)
      case atStart => exact ⟨_, _, _, _, [], hr4, hst4, Took.start zs⟩
      case round =>
        obtain ⟨left, T, last, v, ov, hrg, hst, htk⟩ := hrel
        go_wp2_with (at_next; refine wpList_next_boot _ (by rfl) _ (by rfl) mb r2 n zs bt left _ (by rfl) hrg ?_ ?_)
        case refine_2 =>
          intro x w5 cnt5 hx hlx hrg5 hlt5 hfr5 hen
          have hst5 := hst.rng hrg hr2 hfr5
          have hx0 := hz x hx
          clear hst
          by_cases hbig : 65534 < x
          · have hgt : (decide (x > 65534)) = true := by simp; omega
            go_wp2
            obtain ⟨i0, hi0, hz0, hz1, hz2⟩ := info_parts info32
            obtain ⟨es, hown, hesl, hes3⟩ := hst5.er.list
            have hvar := hst5.er.var
            have hvo : ¬ some vb = v.ownBlock := own_ne hown hvar (by decide)
            have HS : Hid (∀ W, Fr (fun b => some b = v.ownBlock) w5 W → PastS file vb fb (bt x) v x 0 W) := fun W hW => ⟨(hvar.fr hW hvo).cell rfl, (hst5.env.file.fr hW (own_ne hown hst5.env.file (by decide))).cell rfl, ((hst5.env.boots x hx).fr hW (own_ne hown (hst5.env.boots x hx) (by decide))).cell (i := 8) rfl, ((hst5.env.boots x hx).fr hW (own_ne hown (hst5.env.boots x hx) (by decide))).cell (i := 9) rfl⟩
            have hF5 : F.answers w5.tape := by rw [hst5.fr.tape]; exact hF
            have hsz5 : w.heap.size ≤ w5.heap.size := hst5.fr.size
            have hnov : (ov.map fun x => (x, (0 : Int))).length ≤ 1000000 := by have := nodup_le ov zs htk.nodup (fun y hy => ((htk.over y).1 hy).1); simp; omega
            have hst5' : Hid (St w file fb w.heap.size vb tb mb n p pcap sb kb m pa v2 v3 zs bt pb w5 T last 0 v (ov.map fun x => (x, (0 : Int))) (fun _ => 0)) := hst5
            have hrg5' : Hid (RangeAt w5 mb r2 n zs bt (fun z => left z && !(z == x)) cnt5) := hrg5
            clear hst5 hrg5
            refine AnyBut.region 13 (PastS file vb fb (bt x) v x 0) (by kernel_rfl) (HS.out _ ((Fr.refl _ _).drew)) (fun hHeld => ?_)
            refine AnyBut.take (i := 0) (v) rfl (by kernel_rfl) (by kernel_rfl) (by kernel_rfl) (by kernel_rfl) (fun _ _ _ h => h) (Or.inl ⟨by rfl, fun W hW => ?_⟩) hHeld ?_
            · obtain ⟨q0, q1, q4, q5⟩ := hW
              go_simp
            try simp only [Act.put, List.setIfInBounds_toArray, List.set_cons_zero, List.set_cons_succ]
            refine AnyBut.take (i := 1) (.string file) rfl (by kernel_rfl) (by kernel_rfl) (by kernel_rfl) (by kernel_rfl) (fun _ _ _ h => h) (Or.inl ⟨by rfl, fun W hW => ?_⟩) hHeld ?_
            · obtain ⟨q0, q1, q4, q5⟩ := hW
              go_simp
            try simp only [Act.put, List.setIfInBounds_toArray, List.set_cons_zero, List.set_cons_succ]
            refine AnyBut.take (i := 2) (.pointer (some ⟨bt x, 0, none⟩)) rfl (by kernel_rfl) (by kernel_rfl) (by kernel_rfl) (by kernel_rfl) (fun _ _ _ h => h) (Or.inl ⟨by rfl, fun W hW => ?_⟩) hHeld ?_
            · obtain ⟨q0, q1, q4, q5⟩ := hW
              go_simp
            try simp only [Act.put, List.setIfInBounds_toArray, List.set_cons_zero, List.set_cons_succ]
            refine AnyBut.take (i := 3) (.pointer (some ⟨bt x, 0, none⟩)) rfl (by kernel_rfl) (by kernel_rfl) (by kernel_rfl) (by kernel_rfl) (fun _ _ _ h => h) (Or.inl ⟨by rfl, fun W hW => ?_⟩) hHeld ?_
            · obtain ⟨q0, q1, q4, q5⟩ := hW
              go_simp
            try simp only [Act.put, List.setIfInBounds_toArray, List.set_cons_zero, List.set_cons_succ]
            refine AnyBut.take (i := 4) (.pointer (some ⟨bt x, 8, none⟩)) rfl (by kernel_rfl) (by kernel_rfl) (by kernel_rfl) (by kernel_rfl) (fun _ _ _ h => h) (Or.inl ⟨by rfl, fun W hW => ?_⟩) hHeld ?_
            · obtain ⟨q0, q1, q4, q5⟩ := hW
              go_simp
            try simp only [Act.put, List.setIfInBounds_toArray, List.set_cons_zero, List.set_cons_succ]
            refine AnyBut.take (i := 5) (.agg #[.int .i64 x, .int .i64 0]) rfl (by kernel_rfl) (by kernel_rfl) (by kernel_rfl) (by kernel_rfl) (fun _ _ _ h => h) (Or.inl ⟨by rfl, fun W hW => ?_⟩) hHeld ?_
            · obtain ⟨q0, q1, q4, q5⟩ := hW
              go_simp
            try simp only [Act.put, List.setIfInBounds_toArray, List.set_cons_zero, List.set_cons_succ]
            refine AnyBut.take (i := 6) (.int .i64 x) rfl (by kernel_rfl) (by kernel_rfl) (by kernel_rfl) (by kernel_rfl) (fun _ _ _ h => h) (Or.inl ⟨by rfl, fun W hW => ?_⟩) hHeld ?_
            · obtain ⟨q0, q1, q4, q5⟩ := hW
              go_simp
            try simp only [Act.put, List.setIfInBounds_toArray, List.set_cons_zero, List.set_cons_succ]
            refine AnyBut.take (i := 7) (.iface 3 (.int .i64 x)) rfl (by kernel_rfl) (by kernel_rfl) (by kernel_rfl) (by kernel_rfl) (fun _ _ _ h => h) (Or.inl ⟨by rfl, fun W hW => ?_⟩) hHeld ?_
            · obtain ⟨q0, q1, q4, q5⟩ := hW
              go_simp
            try simp only [Act.put, List.setIfInBounds_toArray, List.set_cons_zero, List.set_cons_succ]
            refine AnyBut.take (i := 8) (.iface 3 (.int .i64 65534)) rfl (by kernel_rfl) (by kernel_rfl) (by kernel_rfl) (by kernel_rfl) (fun _ _ _ h => h) (Or.inl ⟨by rfl, fun W hW => ?_⟩) hHeld ?_
            · obtain ⟨q0, q1, q4, q5⟩ := hW
              go_simp
            try simp only [Act.put, List.setIfInBounds_toArray, List.set_cons_zero, List.set_cons_succ]
            refine AnyBut.step (i := 9) (by kernel_rfl) rfl (fun K hK => ?_)
            go_simp
            refine hK.out _ _ (HS.out _ ?_) (fun hHeld => ?_)
            · repeat (first | exact Fr.refl _ _ | refine Fr.drew ?_ | refine Fr.alloc ?_ _ | refine Fr.drewN ?_ _ | refine Fr.trans ?_ (Fr.of_below hb1 _) | refine Fr.trans ?_ (Fr.of_grown hgrow))
            clear hK K
            try simp only [Act.put, List.setIfInBounds_toArray, List.set_cons_zero, List.set_cons_succ]
            refine AnyBut.step (i := 10) (by kernel_rfl) rfl (fun K hK => ?_)
            go_simp
            refine (errorf2 F file _ x 0 w5.heap.size x 65534 _ ?_ ?_ ?_ ?_ ?_ ?_).mono ?_
            · exact hF5
            · kernel_rfl
            · intro W; kernel_rfl
            · go_simp
            · go_simp
            · go_simp
            rintro e w1 ⟨msg, rfl, hbk, hb1, -⟩
            refine hK.out _ _ (HS.out _ ?_) (fun hHeld => ?_)
            · repeat (first | exact Fr.refl _ _ | refine Fr.drew ?_ | refine Fr.alloc ?_ _ | refine Fr.drewN ?_ _ | refine Fr.trans ?_ (Fr.of_below hb1 _) | refine Fr.trans ?_ (Fr.of_grown hgrow))
            clear hK K
            try simp only [Act.put, List.setIfInBounds_toArray, List.set_cons_zero, List.set_cons_succ]
            refine AnyBut.step (i := 11) (by kernel_rfl) rfl (fun K hK => ?_)
            go_simp
            refine hK.out _ _ (HS.out _ ?_) (fun hHeld => ?_)
            · repeat (first | exact Fr.refl _ _ | refine Fr.drew ?_ | refine Fr.alloc ?_ _ | refine Fr.drewN ?_ _ | refine Fr.trans ?_ (Fr.of_below hb1 _) | refine Fr.trans ?_ (Fr.of_grown hgrow))
            clear hK K
            try simp only [Act.put, List.setIfInBounds_toArray, List.set_cons_zero, List.set_cons_succ]
            refine AnyBut.stepW (i := 12) (by kernel_rfl) rfl (fun K hK => ?_)
            refine wp_append_lies _ _ _ _ (by rfl) w.heap.size 32 i0 _ 1 8 Tryf.underlying28 hi0 hz0 hz1 hz2 rfl (by omega) v (ov.map fun x => (x, (0 : Int))).length (es.map fun e => .pointer (some ⟨e, 0, none⟩)) (by rfl) ?_ ⟨w1.heap.size, 0, none⟩ 1 1 [.pointer (some ⟨w5.heap.size + 1 + 1, 0, none⟩)] (by rfl) (by rfl) (cell_one_new _ _ _) (by simp [Value.oneCell']) (by omega) (by unfold maxLen; omega) (by omega) ?_ (w1.heap.size + 1) (by simp) ?_
            · refine own_fr hown (X := fun _ => False) ?_ (fun _ _ h => h)
              repeat (first | exact Fr.refl _ _ | refine Fr.drew ?_ | refine Fr.alloc ?_ _ | refine Fr.drewN ?_ _ | refine Fr.trans ?_ (Fr.of_below hb1 _) | refine Fr.trans ?_ (Fr.of_grown hgrow))
            · have := hb1.size; simp at this ⊢; omega
            intro g cap w2 hown2 hgrow hat hlt2
            refine hK.out _ _ (HS.out _ ?_) (fun hHeld => ?_)
            · repeat (first | exact Fr.refl _ _ | refine Fr.drew ?_ | refine Fr.alloc ?_ _ | refine Fr.drewN ?_ _ | refine Fr.trans ?_ (Fr.of_below hb1 _) | refine Fr.trans ?_ (Fr.of_grown hgrow))
            clear hK K
            try simp only [Act.put, List.setIfInBounds_toArray, List.set_cons_zero, List.set_cons_succ]
            have hv2 := (((hvar.alloc (.cells #[.iface 3 (.int .i64 x), .iface 3 (.int .i64 65534)] 20)).drew.fr (Fr.of_below hb1 (fun _ => False)) (fun x => x)).alloc (.cells #[.pointer (some ⟨w5.heap.size + 1 + 1, 0, none⟩)] 32)).fr (Fr.of_grown hgrow) hvo
            have hfz2 := hv2.frozen 0
            have hc2 := hv2.cell (i := 0) rfl
            refine AnyBut.last (by kernel_rfl) rfl (by kernel_rfl) (fun K hK => ?_)
            go_simp
            refine hK.out _ _ ?_
            clear hK K
            go_wp2
            have hs1 : w5.heap.size + 1 ≤ w1.heap.size := by have := hb1.size; simp at this; omega
            have hol : ∀ b, some b = v.ownBlock → b < w5.heap.size := fun b hb => own_lt hown hb
            have hbk1 : Blk w1 (w5.heap.size + 1 + 1) 36 [.string file, .int .i64 x, .int .i64 0, .string msg, .string ⟨#[]⟩] := by simpa using hbk
            have hbk2 := (hbk1.alloc (.cells #[.pointer (some ⟨w5.heap.size + 1 + 1, 0, none⟩)] 32)).fr (Fr.of_grown hgrow) (fun e => by have := hol _ e; omega)
            have hfr' : Fr (fun b => b = vb ∨ some b = v.ownBlock) w5 (w2.setCell ⟨vb, 0, none⟩ (.slice (some ⟨g, 0, none⟩) ((ov.map fun x => (x, (0 : Int))).length + 1) cap)) := by
              refine Fr.setCell ?_ (Or.inl (Or.inl rfl)) _
              refine Fr.trans ?_ ((Fr.of_grown hgrow).mono (fun b _ h => Or.inr h))
              repeat (first | exact Fr.refl _ _ | refine Fr.drew ?_ | refine Fr.alloc ?_ _ | refine Fr.drewN ?_ _ | refine Fr.trans ?_ (Fr.of_below hb1 _))
            have he2 := Errs.more es hes3 hesl hown hvar (hv2.set 0 _) (own_fr hown2 (Fr.setCell (Fr.refl (fun b => b = vb) w2) (p := ⟨vb, 0, none⟩) (Or.inl rfl) _) (fun b hb e => own_ne hown2 hv2 (by decide) (e ▸ hb))) ⟨msg, hbk2.set_other (p := ⟨vb, 0, none⟩) (hbk2.ne hv2 (by decide)) _⟩ hfr'
            simp only [List.length_map] at hfr' he2
            go_roundg cnt5
            case measure => exact hlt5
            case rel => exact ⟨_, T, last, _, ov ++ [x], RangeAt.err hst5'.out hfr' hrg5'.out, by have := hst5'.out.err hfr' he2; simpa using this, htk.past hx hlx hbig⟩
          · obtain ⟨i, rfl⟩ := Int.eq_ofNat_of_zero_le hx0
            have hxl := hlim.max _ hx (by omega)
            have hlo := htk.lo
            have hhi := htk.hi
            have hgt : (Int.ofNat i > 65534) = False := by simp; omega
            go_wp2_with (go_at_call 17; refine (stake sb kb m i T last 0 _ hst5.sp (by omega) (by omega) (by omega) (by omega)).mono ?_; rintro e w6 ⟨rfl, hw6⟩)
            subst hw6
            have hf6 : Fr (fun b => b = sb ∨ b = kb) w5 ((w5.setCell ⟨kb, i, none⟩ (.bool true)).setCell ⟨sb, 1, none⟩ (.int .i64 (max last i))) := by
              exact Fr.setCell (Fr.setCell (Fr.refl (fun b => b = sb ∨ b = kb) w5) (p := ⟨kb, i, none⟩) (Or.inl (Or.inr rfl)) _) (p := ⟨sb, 1, none⟩) (Or.inl (Or.inl rfl)) _
            go_roundg cnt5
            case measure => exact hlt5
            case rel => exact ⟨_, _, _, v, ov, RangeAt.space hst5 hf6 hrg5, hst5.space hf6 (hst5.sp.took i (max last i)), htk.take hx hlx (by omega)⟩
        intro hdone2
        have hF6 : F.answers wr.tape := by rw [hst.fr.tape]; exact hF
        have cx := hst.env.box.cell (i := 0) rfl
        have c0 := hst.tbl.tbl.cell (i := 0) rfl
        have c1 := hst.tbl.tbl.cell (i := 1) rfl
        have hov : ov.Nodup ∧ (∀ x, x ∈ ov ↔ (x ∈ zs ∧ 65534 < x)) := ⟨htk.nodup, fun x => by rw [htk.over x]; simp [hdone2]⟩
        have hT : ∀ j : Nat, T j = (decide ((j : Int) ∈ zs) && decide ((j : Int) ≤ 65534)) := fun j => by rw [htk.tk j]; simp [hdone2]
        have hlast : -1 ≤ last ∧ last ≤ 65534 ∧ (∀ j : Nat, T j = true → (j : Int) ≤ last) ∧ (last = -1 ∨ T last.toNat = true) := ⟨htk.lo, htk.hi, htk.top, htk.at_⟩
        have hlm : last + 1 < (m : Int) := by
          rcases htk.at_ with e | e
          · omega
          · rw [htk.tk last.toNat] at e
            simp only [Bool.and_eq_true, decide_eq_true_eq] at e
            have := hlim.max _ e.1.1 e.1.2
            omega
        clear htk hrg hdone2 hr4 hst4
        go_wp2_with fail
        go_loopg [12, 13, 14, 76] p (fun g s12 s13 s14 s76 wr => ∃ (idx : List Nat) (T : Nat → Bool) (last : Int) (o : Nat), idx.length ≤ p ∧ g = p - idx.length ∧ s76 = .int .i64 (idx.length : Int) ∧
          St w file fb w.heap.size vb tb mb n p pcap sb kb m pa v2 v3 zs bt pb wr T last o v (ov.map fun x => (x, (0 : Int))) (ixOf idx) ∧ Laid zs idx T last o m)
        case atStart => exact ⟨[], T, last, 0, Nat.zero_le _, rfl, rfl, hst, Laid.start hT hlast (by omega) hlm⟩
        case round =>
          obtain ⟨idx, T, last, o, hle, rfl, rfl, hst, hld⟩ := hrel
          by_cases hk : idx.length < p
          · obtain ⟨f, hf⟩ := free_of T m _ o rfl hld.om
            have hlo := hld.lo
            have hhi := hld.hi
            obtain ⟨rg, rvs, rfl, hrow, hrk⟩ := hst.tbl.row _ hk
            have cr := hrow.cell hrk
            have cx := hst.env.box.cell (i := 0) rfl
            have hki : ((idx.length : Int) < (p : Int)) := by omega
            have hk0 : (0 : Int) ≤ (idx.length : Int) := by omega
            go_wp2_with (go_at_call 18; refine (lowest sb kb m o f T last _ hst.sp hf (by omega) (by omega) (by omega)).mono ?_; rintro e w6 ⟨hf6, ⟨hfm, rfl, hsp6⟩ | ⟨hfm, rfl, hsp6⟩⟩; all_goals (have hst6 := hst.space hf6 hsp6; have fz6 := (hst6.tbl.placed _ hk).frozen 4; have cz6 := (hst6.tbl.placed _ hk).cell (i := 4) rfl))
            · have hst7 := hst6.index hk (f : Int)
              rw [ixOf_snoc] at hst7
              go_roundg (p - (idx ++ [f]).length)
              case measure => simp; omega
              case rel => exact ⟨idx ++ [f], _, _, f, by simp; omega, rfl, by simp, hst7, hld.put hf (by omega) hfm⟩
            · obtain ⟨i0, hi0, hz0, hz1, hz2⟩ := info_parts info32
              obtain ⟨es, hown, hesl, hes3⟩ := hst6.er.list
              have hvar := hst6.er.var
              have hvo : ¬ some vb = v.ownBlock := own_ne hown hvar (by decide)
              have hpl := hst6.tbl.placed _ hk
              have HS : Hid (∀ W, Fr (fun b => some b = v.ownBlock) w6 W → FullS file vb fb (pb idx.length) v (-1) ((idx.length : Int) + 1) W) := fun W hW => ⟨(hvar.fr hW hvo).cell rfl, (hst6.env.file.fr hW (own_ne hown hst6.env.file (by decide))).cell rfl, (hpl.fr hW (own_ne hown hpl (by decide))).cell (i := 2) rfl, (hpl.fr hW (own_ne hown hpl (by decide))).cell (i := 3) rfl⟩
              have hF5 : F.answers w6.tape := by rw [hst6.fr.tape]; exact hF
              have hsz5 : w.heap.size ≤ w6.heap.size := hst6.fr.size
              have hnov : (ov.map fun x => (x, (0 : Int))).length ≤ 1000000 := by have := nodup_le ov zs hov.1 (fun y hy => ((hov.2 y).1 hy).1); simp; omega
              have hfull := hld.none hlim hf hm hfm hk
              have hst6' : Hid (St w file fb w.heap.size vb tb mb n p pcap sb kb m (some ⟨rg, 0, none⟩) v2 v3 zs bt pb w6 T last f v (ov.map fun x => (x, (0 : Int))) (ixOf idx)) := hst6
              clear hst6 hst cz6 fz6 cr cx hpl
              refine AnyBut.region 11 (FullS file vb fb (pb idx.length) v (-1) ((idx.length : Int) + 1)) (by kernel_rfl) (HS.out _ ((Fr.refl _ _).drew)) (fun hHeld => ?_)
              refine AnyBut.take (i := 0) (v) rfl (by kernel_rfl) (by kernel_rfl) (by kernel_rfl) (by kernel_rfl) (fun _ _ _ h => h) (Or.inl ⟨by rfl, fun W hW => ?_⟩) hHeld ?_
              · obtain ⟨q0, q1, q4, q5⟩ := hW
                go_simp
              try simp only [Act.put, List.setIfInBounds_toArray, List.set_cons_zero, List.set_cons_succ]
              refine AnyBut.take (i := 1) (.string file) rfl (by kernel_rfl) (by kernel_rfl) (by kernel_rfl) (by kernel_rfl) (fun _ _ _ h => h) (Or.inl ⟨by rfl, fun W hW => ?_⟩) hHeld ?_
              · obtain ⟨q0, q1, q4, q5⟩ := hW
                go_simp
              try simp only [Act.put, List.setIfInBounds_toArray, List.set_cons_zero, List.set_cons_succ]
              refine AnyBut.take (i := 2) (.pointer (some ⟨pb idx.length, 0, none⟩)) rfl (by kernel_rfl) (by kernel_rfl) (by kernel_rfl) (by kernel_rfl) (fun _ _ _ h => h) (Or.inl ⟨by rfl, fun W hW => ?_⟩) hHeld ?_
              · obtain ⟨q0, q1, q4, q5⟩ := hW
                go_simp
              try simp only [Act.put, List.setIfInBounds_toArray, List.set_cons_zero, List.set_cons_succ]
              refine AnyBut.take (i := 3) (.pointer (some ⟨pb idx.length, 0, none⟩)) rfl (by kernel_rfl) (by kernel_rfl) (by kernel_rfl) (by kernel_rfl) (fun _ _ _ h => h) (Or.inl ⟨by rfl, fun W hW => ?_⟩) hHeld ?_
              · obtain ⟨q0, q1, q4, q5⟩ := hW
                go_simp
              try simp only [Act.put, List.setIfInBounds_toArray, List.set_cons_zero, List.set_cons_succ]
              refine AnyBut.take (i := 4) (.pointer (some ⟨pb idx.length, 2, none⟩)) rfl (by kernel_rfl) (by kernel_rfl) (by kernel_rfl) (by kernel_rfl) (fun _ _ _ h => h) (Or.inl ⟨by rfl, fun W hW => ?_⟩) hHeld ?_
              · obtain ⟨q0, q1, q4, q5⟩ := hW
                go_simp
              try simp only [Act.put, List.setIfInBounds_toArray, List.set_cons_zero, List.set_cons_succ]
              refine AnyBut.take (i := 5) (.agg #[.int .i64 (-1), .int .i64 ((idx.length : Int) + 1)]) rfl (by kernel_rfl) (by kernel_rfl) (by kernel_rfl) (by kernel_rfl) (fun _ _ _ h => h) (Or.inl ⟨by rfl, fun W hW => ?_⟩) hHeld ?_
              · obtain ⟨q0, q1, q4, q5⟩ := hW
                go_simp
              try simp only [Act.put, List.setIfInBounds_toArray, List.set_cons_zero, List.set_cons_succ]
              refine AnyBut.take (i := 6) (.iface 3 (.int .i64 65535)) rfl (by kernel_rfl) (by kernel_rfl) (by kernel_rfl) (by kernel_rfl) (fun _ _ _ h => h) (Or.inl ⟨by rfl, fun W hW => ?_⟩) hHeld ?_
              · obtain ⟨q0, q1, q4, q5⟩ := hW
                go_simp
              try simp only [Act.put, List.setIfInBounds_toArray, List.set_cons_zero, List.set_cons_succ]
              refine AnyBut.step (i := 7) (by kernel_rfl) rfl (fun K hK => ?_)
              go_simp
              refine hK.out _ _ (HS.out _ ?_) (fun hHeld => ?_)
              · repeat (first | exact Fr.refl _ _ | refine Fr.drew ?_ | refine Fr.alloc ?_ _ | refine Fr.drewN ?_ _ | refine Fr.trans ?_ (Fr.of_below hb1 _) | refine Fr.trans ?_ (Fr.of_grown hgrow))
              clear hK K
              try simp only [Act.put, List.setIfInBounds_toArray, List.set_cons_zero, List.set_cons_succ]
              refine AnyBut.step (i := 8) (by kernel_rfl) rfl (fun K hK => ?_)
              go_simp
              refine (errorf1 F file _ (-1) ((idx.length : Int) + 1) w6.heap.size 65535 _ ?_ ?_ ?_ ?_ ?_).mono ?_
              · exact hF5
              · kernel_rfl
              · intro W; kernel_rfl
              · go_simp
              · go_simp
              rintro e w1 ⟨msg, rfl, hbk, hb1, -⟩
              refine hK.out _ _ (HS.out _ ?_) (fun hHeld => ?_)
              · repeat (first | exact Fr.refl _ _ | refine Fr.drew ?_ | refine Fr.alloc ?_ _ | refine Fr.drewN ?_ _ | refine Fr.trans ?_ (Fr.of_below hb1 _) | refine Fr.trans ?_ (Fr.of_grown hgrow))
              clear hK K
              try simp only [Act.put, List.setIfInBounds_toArray, List.set_cons_zero, List.set_cons_succ]
              refine AnyBut.step (i := 9) (by kernel_rfl) rfl (fun K hK => ?_)
              go_simp
              refine hK.out _ _ (HS.out _ ?_) (fun hHeld => ?_)
              · repeat (first | exact Fr.refl _ _ | refine Fr.drew ?_ | refine Fr.alloc ?_ _ | refine Fr.drewN ?_ _ | refine Fr.trans ?_ (Fr.of_below hb1 _) | refine Fr.trans ?_ (Fr.of_grown hgrow))
              clear hK K
              try simp only [Act.put, List.setIfInBounds_toArray, List.set_cons_zero, List.set_cons_succ]
              refine AnyBut.stepW (i := 10) (by kernel_rfl) rfl (fun K hK => ?_)
              refine wp_append_lies _ _ _ _ (by rfl) w.heap.size 32 i0 _ 1 8 Tryf.underlying28 hi0 hz0 hz1 hz2 rfl (by omega) v (ov.map fun x => (x, (0 : Int))).length (es.map fun e => .pointer (some ⟨e, 0, none⟩)) (by rfl) ?_ ⟨w1.heap.size, 0, none⟩ 1 1 [.pointer (some ⟨w6.heap.size + 1 + 1, 0, none⟩)] (by rfl) (by rfl) (cell_one_new _ _ _) (by simp [Value.oneCell']) (by omega) (by unfold maxLen; omega) (by omega) ?_ (w1.heap.size + 1) (by simp) ?_
              · refine own_fr hown (X := fun _ => False) ?_ (fun _ _ h => h)
                repeat (first | exact Fr.refl _ _ | refine Fr.drew ?_ | refine Fr.alloc ?_ _ | refine Fr.drewN ?_ _ | refine Fr.trans ?_ (Fr.of_below hb1 _) | refine Fr.trans ?_ (Fr.of_grown hgrow))
              · have := hb1.size; simp at this ⊢; omega
              intro g cap w2 hown2 hgrow hat hlt2
              refine hK.out _ _ (HS.out _ ?_) (fun hHeld => ?_)
              · repeat (first | exact Fr.refl _ _ | refine Fr.drew ?_ | refine Fr.alloc ?_ _ | refine Fr.drewN ?_ _ | refine Fr.trans ?_ (Fr.of_below hb1 _) | refine Fr.trans ?_ (Fr.of_grown hgrow))
              clear hK K
              try simp only [Act.put, List.setIfInBounds_toArray, List.set_cons_zero, List.set_cons_succ]
              refine AnyBut.last (by kernel_rfl) rfl (by kernel_rfl) (fun K hK => ?_)
              go_simp
              refine hK.out _ _ ?_
              clear hK K
              go_wp2
              go_ret
              have hs1 : w6.heap.size + 1 ≤ w1.heap.size := by have := hb1.size; simp at this; omega
              have hol : ∀ b, some b = v.ownBlock → b < w6.heap.size := fun b hb => own_lt hown hb
              have hbk1 : Blk w1 (w6.heap.size + 1 + 1) 36 [.string file, .int .i64 (-1), .int .i64 ((idx.length : Int) + 1), .string msg, .string ⟨#[]⟩] := by simpa using hbk
              have hbk2 := (hbk1.alloc (.cells #[.pointer (some ⟨w6.heap.size + 1 + 1, 0, none⟩)] 32)).fr (Fr.of_grown hgrow) (fun e => by have := hol _ e; omega)
              have hfr' : Fr (fun b => some b = v.ownBlock) w6 w2 := by
                repeat (first | exact Fr.refl _ _ | refine Fr.drew ?_ | refine Fr.alloc ?_ _ | refine Fr.drewN ?_ _ | refine Fr.trans ?_ (Fr.of_below hb1 _) | refine Fr.trans ?_ (Fr.of_grown hgrow))
              have he2 := ErrList.more es hes3 hesl hown hown2 ⟨msg, hbk2⟩ hfr'
              have htb := hst6'.out.tbl.err hvar hown (hfr'.mono (fun _ _ h => Or.inr h))
              refine ⟨_, idx, 0, _, rfl, by simpa using he2, htb, (hst6'.out.fr.step hfr' (fun i hi e => by have := own_ge hown e; omega)).mono (fun _ _ h => Or.inr h), ⟨hld.greedy, hld.small, ov, hov.1, hov.2, Or.inr ⟨hk, hfull, rfl, rfl⟩⟩⟩
          · have hpe : idx.length = p := by omega
            have hki : ¬ ((idx.length : Int) < (p : Int)) := by omega
            go_wp2_with fail
            obtain ⟨c, hc⟩ : ∃ c : Nat, last = (c : Int) - 1 := ⟨(last + 1).toNat, by have := hld.lo; omega⟩
            have hhi := hld.hi
            have hlm2 := hld.lm
            have hfz := hst.tbl.tbl.frozen 5
            have hc5 := hst.tbl.tbl.cell (i := 5) rfl
            have hxb := hst.env.box.cell (i := 0) rfl
            have hcnt := hst.count (c : Int)
            have hnov : (ov.map fun x => (x, (0 : Int))).length ≤ 500000 := by have := nodup_le ov zs hov.1 (fun y hy => ((hov.2 y).1 hy).1); simp; omega
            refine AnyBut.region 5 (fun W => W = wr.drew) (by kernel_rfl) rfl (fun hHeld => ?_)
            refine AnyBut.take (i := 0) (.pointer (some ⟨tb, 0, none⟩)) rfl (by kernel_rfl) (by kernel_rfl) (by kernel_rfl) (by kernel_rfl) (fun _ _ _ h => h) (Or.inl ⟨by rfl, fun W hW => ?_⟩) hHeld ?_
            · subst hW
              go_simp
            try simp only [Act.put, List.setIfInBounds_toArray, List.set_cons_zero, List.set_cons_succ]
            refine AnyBut.take (i := 1) (.pointer (some ⟨sb, 0, none⟩)) rfl (by kernel_rfl) (by kernel_rfl) (by kernel_rfl) (by kernel_rfl) (fun _ _ _ h => h) (Or.inl ⟨by rfl, fun W hW => ?_⟩) hHeld ?_
            · subst hW
              go_simp
            try simp only [Act.put, List.setIfInBounds_toArray, List.set_cons_zero, List.set_cons_succ]
            refine AnyBut.step (i := 2) (by kernel_rfl) rfl (fun K hK => ?_)
            go_simp
            refine (scount sb kb m T last o _ (hst.sp.drewN 1) (by omega) (by omega)).mono ?_
            rintro e w1 ⟨rfl, hw1⟩
            refine hK.out _ _ hw1 (fun hHeld => ?_)
            clear hK K
            try simp only [Act.put, List.setIfInBounds_toArray, List.set_cons_zero, List.set_cons_succ]
            have hw2 : wr.drewN 1 = wr.drew := rfl
            rw [hw1, hw2]
            clear hw1 hHeld hw2
            refine AnyBut.step (i := 3) (by kernel_rfl) rfl (fun K hK => ?_)
            go_simp
            refine hK.out _ _ rfl (fun hHeld => ?_)
            clear hK K
            try simp only [Act.put, List.setIfInBounds_toArray, List.set_cons_zero, List.set_cons_succ]
            refine AnyBut.step (i := 4) (by kernel_rfl) rfl (fun K hK => ?_)
            go_simp
            refine hK.out _ _ rfl (fun hHeld => ?_)
            clear hK K
            try simp only [Act.put, List.setIfInBounds_toArray, List.set_cons_zero, List.set_cons_succ]
            refine AnyBut.last (by kernel_rfl) rfl (by kernel_rfl) (fun K hK => ?_)
            go_simp
            refine hK.out _ _ ?_
            clear hK K
            have hlc : last + 1 = (c : Int) := by omega
            try rw [hlc]
            obtain ⟨henv7, ht7, hsp7, her7, hfr7⟩ := hcnt
            have hd7 : Fr (fun _ => False) (wr.setCell ⟨tb, 5, none⟩ (.int .i64 (c : Int))) (wr.setCell ⟨tb, 5, none⟩ (.int .i64 (c : Int))).drew := (Fr.refl _ _).drew
            replace henv7 := henv7.fr hd7 (fun x => x) (fun x => x) (fun x => x) (fun _ _ x => x) (fun x => x)
            replace ht7 := ht7.fr hd7 (fun x => x) (fun x => x) (fun _ _ x => x) (fun _ _ _ x => x) (fun _ _ x => x)
            replace hsp7 := hsp7.fr hd7 (fun x => x) (fun x => x)
            replace her7 : Errs _ vb w.heap.size file v (ov.map fun x => (x, (0 : Int))) := ⟨her7.var.fr hd7 (fun x => x), her7.list.fr hd7 (fun _ h => h.elim)⟩
            replace hfr7 := hfr7.step hd7 (fun _ _ h => h.elim)
            clear hd7 hxb hc5 hfz hst
            generalize (wr.setCell ⟨tb, 5, none⟩ (.int .i64 (c : Int))).drew = w7 at *
            rw [hc] at hsp7
            have hF7 : F.answers w7.tape := by rw [hfr7.tape]; exact hF
            obtain ⟨es, hown, hesl, hes3⟩ := her7.list
            have hsz7 := hfr7.size
            go_wp2_with (go_at_call 20; refine (emptyRuns F file vb fb w.heap.size tb mb n w.heap.size sb kb m c zs bt T o v _ _ hF7 hsp7 henv7 her7 hsz7 (by omega) (by omega) hnov (hld.atc hc) (hld.gap hc)).mono ?_; rintro e w8 ⟨rfl, v8, L, he8, hL, -, -, hf8⟩; have cv8 := he8.var.cell (i := 0) rfl)
            go_ret
            refine ⟨v8, idx, c, _, rfl, he8.list, ht7.err her7.var hown hf8, hfr7.step hf8 (fun i hi e => ?_), hld.done hc hpe hov hL⟩
            rcases e with e | e
            · omega
            · have := own_ge hown e; omega
end Go.Proofs.Qxb6616573aFmt
