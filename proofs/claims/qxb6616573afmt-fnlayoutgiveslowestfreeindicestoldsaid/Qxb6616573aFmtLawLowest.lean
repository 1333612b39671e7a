import Derived.Test.Qxb6616573aFmtLow
import Derived.Deep.DeepCutAuto
import Derived.Deep.CutBlock
import Derived.Deep.QuietTactic
import Derived.BigQuiet
namespace Go.Proofs.Qxb6616573aFmt
open Go.RowKit
open Go.Extern.Stop Go.Stop Go.Extern
set_option linter.unusedVariables false
set_option linter.unusedSimpArgs false
set_option maxRecDepth 100000 in
set_option maxHeartbeats 16000000 in
theorem law3 (F : Stop.Interp) (built : Bool) (a : Option Addr) (len cap : Nat) (zs : List Int) (p : Int) (file : ByteArray) (w : World) (hF : F.answers w.tape) (h : IsRow w a len cap zs) (hfile : file.size ≤ 9223372036854775807) (hlen : len ≤ 9223372036854775807) :
    Calls Tryf.prog 3 #[.bool built, .slice a len cap, .int .i64 p, .string file] w fun e w' => e = .returned (.bool true) ∧ Fr (fun _ => False) w w' := by
  have hby := fun W => zzbytes5 a len cap built p file hlen hfile W
  by_cases h1 : len + file.size ≤ 1048576
  · simp only [h1, decide_true] at hby
    by_cases h2 : len ≤ 131072
    · by_cases h3 : 8 * len + file.size ≤ 1048576
      · by_cases h4 : p < 0
        · go_enter Tryf.func3, Tryf.ntmps3
          go_wp2_with (go_at_call 5; refine (hby _).mono ?_; rintro e w1 ⟨rfl, hw1⟩; have hw1 := hw1.symm; subst hw1)
          go_ret
          exact ⟨rfl, Fr.refl _ _⟩
        · by_cases h5 : 65536 < p
          · go_enter Tryf.func3, Tryf.ntmps3
            go_wp2_with (go_at_call 5; refine (hby _).mono ?_; rintro e w1 ⟨rfl, hw1⟩; have hw1 := hw1.symm; subst hw1)
            go_ret
            exact ⟨rfl, Fr.refl _ _⟩
          · obtain ⟨q, rfl⟩ := Int.eq_ofNat_of_zero_le (show 0 ≤ p by omega)
            have hq : q ≤ 65536 := by omega
            go_enter Tryf.func3, Tryf.ntmps3
            go_wp2_with (go_at_call 5; refine (hby _).mono ?_; rintro e w1 ⟨rfl, hw1⟩; have hw1 := hw1.symm; subst hw1)
            go_loopg [9] len (fun g s9 wr => ∃ k : Nat, s9 = .int .i64 (k : Int) ∧ g = len - k ∧ k ≤ len ∧ wr = w ∧ Hid (∀ x, x ∈ zs.take k → 0 ≤ x))
            case atStart => exact ⟨0, rfl, rfl, Nat.zero_le _, rfl, fun x hx => by simp at hx⟩
            case round =>
              obtain ⟨k, rfl, rfl, hk, hwr, hpos⟩ := hrel
              have hwr := hwr.symm
              subst hwr
              by_cases hlt : k < len
              · obtain ⟨b, off, z, rfl, hzk, hc⟩ := h.at_ hlt
                have hki : ((k : Int) < (len : Int)) := by omega
                have hk0 : (0 : Int) ≤ (k : Int) := by omega
                by_cases hz : z < 0
                · go_wp2_with fail
                  go_ret
                  exact ⟨rfl, Fr.refl _ _⟩
                · go_wp2_with fail
                  go_roundg (len - (k + 1))
                  case measure => omega
                  case rel =>
                    refine ⟨k + 1, by go_num, rfl, by omega, rfl, fun x hx => ?_⟩
                    rw [take_next hzk, List.mem_append] at hx
                    rcases hx with hx | hx
                    · exact hpos.out x hx
                    · simp at hx; omega
              · have hki : ¬ ((k : Int) < (len : Int)) := by omega
                have hke : k = len := by omega
                have hpos2 : ∀ x, x ∈ zs.take len → 0 ≤ x := by rw [← hke]; exact hpos.out
                have hwf : ∀ x, x ∈ zs.take len → (Lit.int .i64 x).wf = true := by
                  intro x hx
                  rcases h with ⟨_, _, _, rfl⟩ | ⟨_, _, _, _, _, _, hw⟩
                  · simp at hx
                  · exact hw x (List.mem_of_mem_take hx)
                have hXl : (zs.take len).length ≤ 131072 := by simp; omega
                have hcl := clone a len cap zs w h h2
                clear hpos hby hke hk
                generalize zs.take len = X at *
                cases built with
                | false =>
                  go_wp2_with (first
                    | (go_at_call 6; refine hcl.mono ?_; rintro e w1 ⟨v1, rfl, hv1, hf1⟩)
                    | (go_at_call 7; refine (newtable false v1 X q hq hwf hXl _ hv1).mono ?_; rintro e w2 ⟨tb, rfl, mb, n, pv, bt, pb, hmd⟩; obtain ⟨pcap, pa, v2, v3, htab⟩ := hmd.table)
                    | (go_at_call 8; refine (zzlayout_not tb mb n q pcap pa v2 v3 X bt pb file _ htab).mono ?_; rintro e w3 ⟨rfl, hf3⟩; have htab3 := htab.fr hf3 (fun x => x) (fun x => x) (fun _ _ x => x) (fun _ _ _ x => x) (fun _ _ x => x))
                    | (go_at_call 9; refine (placedIx htab3 hq).mono ?_; rintro e w4 ⟨gb, rfl, hgb, hrow, hf4⟩; have htab4 := htab3.fr hf4 (fun x => x) (fun x => x) (fun _ _ x => x) (fun _ _ _ x => x) (fun _ _ x => x))
                    | (go_at_call 10; refine (zzcount htab4).mono ?_; rintro e w5 ⟨rfl, hw5⟩; have hw5 := hw5.symm; subst hw5))
                  have hfr4 : Fr (fun _ => False) w w4 := ((hf1.trans (hmd.fr)).trans hf3).trans hf4
                  go_loopg [14] q (fun g s14 wr => ∃ k : Nat, s14 = .int .i64 (k : Int) ∧ g = q - k ∧ k ≤ q ∧ wr = w4)
                  case atStart => exact ⟨0, rfl, rfl, Nat.zero_le _, rfl⟩
                  case round =>
                    obtain ⟨k, rfl, rfl, hk, hwr⟩ := hrel
                    have hwr := hwr.symm
                    subst hwr
                    by_cases hlt2 : k < q
                    · have cg : w4.cell? ⟨gb, k, none⟩ = some (.int .i64 0) := hrow.cell (by simp [hlt2])
                      have hk0 : (0 : Int) ≤ (k : Int) := by omega
                      have hk1 : (k : Int) < (q : Int) := by omega
                      go_wp2_with fail
                      go_roundg (q - (k + 1))
                      case measure => omega
                      case rel => exact ⟨k + 1, by go_num, rfl, by omega, rfl⟩
                    · have hk1 : ¬ (k : Int) < (q : Int) := by omega
                      go_wp2_with fail
                      go_ret
                      exact ⟨rfl, hfr4⟩
                | true =>
                  go_wp2_with (first
                    | (go_at_call 6; refine hcl.mono ?_; rintro e w1 ⟨v1, rfl, hv1, hf1⟩)
                    | (go_at_call 7; refine (newtable true v1 X q hq hwf hXl _ hv1).mono ?_; rintro e w2 ⟨tb, rfl, mb, n, pv, bt, pb, hmd⟩; obtain ⟨pcap, pa, v2, v3, htab⟩ := hmd.table; have hF2 : F.answers w2.tape := (by rw [hmd.fr.tape, hf1.tape]; exact hF))
                    | (go_at_call 8; refine (zzlayout_built F tb mb n q pcap pa v2 v3 X bt pb file _ hF2 htab hpos2 hq hXl).mono ?_; rintro e w3 ⟨ev, rfl, idx, cnt, ps, herr, htab3, hf3, hspec⟩; obtain ⟨ead, ec, hev⟩ := herr.shape; subst hev)
                    | (go_at_call 9; refine (placedIx htab3 hq).mono ?_; rintro e w4 ⟨gb, rfl, hgb, hrow, hf4⟩; have htab4 := htab3.fr hf4 (fun x => x) (fun x => x) (fun _ _ x => x) (fun _ _ _ x => x) (fun _ _ x => x); have hv4 := (((hv1.fr hmd.fr (fun _ _ x => x)).fr hf3 (fun b hb e => (by rcases e with e | ⟨k, hk, e⟩; exact Blk.ne hb htab.tbl (by decide) e; exact Blk.ne hb (htab.placed k hk) (by decide) e))).fr hf4 (fun _ _ x => x)))
                    | (go_at_call 10; refine (zzcount htab4).mono ?_; rintro e w5 ⟨rfl, hw5⟩; have hw5 := hw5.symm; subst hw5))
                  have hfr4 : Fr (fun _ => False) w w4 := ((hf1.trans hmd.fr).step hf3 (fun i hi e => by
                    have hs1 := hf1.size
                    rcases e with e | ⟨k, hk, e⟩
                    · have := hmd.stb; omega
                    · have := hmd.spb k hk; omega)).trans hf4
                  have herr4 := herr.same hf4
                  clear hf4 hf3 hf1 hmd htab htab3 htab4 hv1 herr hF2 hcl h
                  obtain ⟨hg, hsm, ov, hnd, hov, hrest⟩ := hspec
                  have hpl : ps.length ≤ 1000000 := by
                    have hovl := nodup_le ov X hnd (fun y hy => ((hov y).1 hy).1)
                    rcases hrest with ⟨_, c, L, _, hc, _, _, hL, rfl⟩ | ⟨_, _, _, rfl⟩
                    · have := hL.len; simp; omega
                    · simp; omega
                  have hpre : ∀ (j : Nat) (x : Int), ov[j]? = some x → ps[j]? = some (x, (0 : Int)) := by
                    intro j x hj
                    have hjl := (List.getElem?_eq_some_iff.1 hj).1
                    rcases hrest with ⟨_, c, L, _, hc, _, _, hL, rfl⟩ | ⟨_, _, _, rfl⟩ <;> rw [List.getElem?_append_left (by simpa using hjl)] <;> simp [hj]
                  have hovp : ov.length ≤ ps.length := by
                    rcases hrest with ⟨_, c, L, _, hc, _, _, hL, rfl⟩ | ⟨_, _, _, rfl⟩ <;> simp
                  have HR : Hid ((idx.length = q ∧ ∃ (c : Nat) (L : List Nat), cnt = (c : Int) ∧ c ≤ 65535 ∧ (∀ j : Nat, c ≤ j → j ≤ 65534 → tk X idx j = false) ∧ (c = 0 ∨ tk X idx (c - 1) = true) ∧ IsGaps (tk X idx) c 0 L ∧ ps = (ov.map fun x => (x, (0 : Int))) ++ L.map fun (a : Nat) => ((a : Int), (0 : Int))) ∨
                     (idx.length < q ∧ (∀ j : Nat, j ≤ 65534 → tk X idx j = true) ∧ cnt = 0 ∧ ps = (ov.map fun x => (x, (0 : Int))) ++ [((-1 : Int), (idx.length : Int) + 1)])) := hrest
                  clear hrest
                  go_loopg [15] ps.length (fun g s15 wr => ∃ k : Nat, s15 = .int .i64 (k : Int) ∧ g = ps.length - k ∧ k ≤ ps.length ∧ wr = w4)
                  case atStart => exact ⟨0, rfl, rfl, Nat.zero_le _, rfl⟩
                  case round =>
                    obtain ⟨k, rfl, rfl, hk, hwr⟩ := hrel
                    have hwr := hwr.symm
                    subst hwr
                    by_cases hlt2 : k < ps.length
                    · obtain ⟨eg, ee, rfl, e1, e2, e3, e4⟩ := herr4.at_ (List.getElem?_eq_getElem hlt2)
                      have hk0 : (0 : Int) ≤ (k : Int) := by omega
                      have hk1 : (k : Int) < (ps.length : Int) := by omega
                      go_wp2_with fail
                      go_roundg (ps.length - (k + 1))
                      case measure => omega
                      case rel => exact ⟨k + 1, by go_num, rfl, by omega, rfl⟩
                    · have hk1 : ¬ (k : Int) < (ps.length : Int) := by omega
                      have hmk : ∀ W, (Instr.makeSlice 22 (.int .i64 (ov.length : Int)) (.int .i64 (ov.length : Int))).run Tryf.prog W = .ok (.slice (some ⟨W.heap.size, 0, none⟩) ov.length ov.length) (W.alloc (.cells ((List.replicate ov.length (0 : Int)).map fun z => Value.int .i64 z).toArray 3)) := fun W => make22 W ov.length (by omega)
                      have hovp2 : ¬ (ps.length : Int) < (ov.length : Int) := by omega
                      go_wp2_with (go_at_call 11; refine (fixedSplit v1 X _ hv4 hXl hpos2).mono ?_; rintro e w5 ⟨kb, ovv, rfl, T, over, hpt⟩; obtain ⟨oad, oc, hovv⟩ := own_shape hpt.own; subst hovv; have hol : over.length = ov.length := same_len hpt.inc hnd (fun x => by rw [hpt.mem x, hov x]))
                      have herr5 := herr4.same hpt.fr
                      have hgot5 : IntRow w5 gb ((List.range q).map (ixOf idx)) := Blk.fr hrow hpt.fr (fun x => x)
                      have hfr5 := hfr4.trans hpt.fr
                      have hnew := IntRow.new w5 (List.replicate ov.length (0 : Int))
                      simp only [List.map_replicate, List.toArray_replicate] at hnew
                      have hf6 := (Fr.refl (fun _ => False) w5).alloc (.cells (Array.replicate ov.length (.int .i64 0)) 3)
                      generalize w5.alloc (.cells (Array.replicate ov.length (Value.int .i64 0)) 3) = w6 at *
                      have hovl : ov.length ≤ 131072 := by have := nodup_le ov X hnd (fun y hy => ((hov y).1 hy).1); omega
                      clear hmk
                      go_loopg [20] ov.length (fun g s20 wr => ∃ (k : Nat) (ys : List Int), s20 = .int .i64 (k : Int) ∧ g = ov.length - k ∧ k ≤ ov.length ∧ IntRow wr w5.heap.size ys ∧ ys.length = ov.length ∧ Hid (∀ i : Nat, i < k → ys[i]? = ov[i]?) ∧ Fr (fun _ => False) w5 wr)
                      case atStart => exact ⟨0, _, rfl, rfl, Nat.zero_le _, hnew, by simp, fun i hi => by omega, hf6⟩
                      case round =>
                        obtain ⟨k, ys, rfl, rfl, hk, hys, hyl, hyo, hfw⟩ := hrel
                        by_cases hlt2 : k < ov.length
                        · obtain ⟨x, hx⟩ : ∃ x, ov[k]? = some x := ⟨ov[k], List.getElem?_eq_getElem hlt2⟩
                          obtain ⟨eg, ee, rfl, e1, e2, e3, e4⟩ := (herr5.same hfw).at_ (hpre k x hx)
                          obtain ⟨y, hy⟩ : ∃ y, ys[k]? = some y := ⟨ys[k], List.getElem?_eq_getElem (by omega)⟩
                          have cy := hys.cell hy
                          have fy := Blk.frozen hys k
                          have hk0 : (0 : Int) ≤ (k : Int) := by omega
                          have hk1 : (k : Int) < (ps.length : Int) := by omega
                          have hk2 : (k : Int) < (ov.length : Int) := by omega
                          have HX : Hid (ov[k]? = some x) := hx
                          clear hx hpre hov hg hsm hy
                          simp only at e3 e4
                          go_wp2_with fail
                          go_roundg (ov.length - (k + 1))
                          case measure => omega
                          case rel =>
                            refine ⟨k + 1, ys.set k x, by go_num, rfl, by omega, hys.set k x, by simpa using hyl, fun i hi => ?_, Fr.setCell hfw (p := ⟨w5.heap.size, k, none⟩) (Or.inr (Nat.le_refl _)) _⟩
                            by_cases e : i = k
                            · subst e; rw [HX.out, List.getElem?_set_self (by omega)]
                            · rw [List.getElem?_set_ne (by omega)]; exact hyo.out i (by omega)
                        · have hk1 : ¬ (k : Int) < (ov.length : Int) := by omega
                          have hye : ys = ov := List.ext_getElem? (fun i => by
                            by_cases hi : i < k
                            · exact hyo.out i hi
                            · rw [List.getElem?_eq_none (by omega), List.getElem?_eq_none (by omega)])
                          rw [hye] at hys
                          clear hye hyo hyl
                          go_wp2_with (go_at_call 12; refine (sortInts _ ov _ (Or.inr ⟨w5.heap.size, rfl, hys⟩) hovl).mono ?_; rintro e w7 ⟨lb, rfl, hlb, ys2, hys2, hp2, hs2, hf7⟩)
                          have hyo2 : ys2 = over := sorted_eq hpt.inc hnd (fun x => by rw [hpt.mem x, hov x]) hp2 hs2
                          have hyl2 : ys2.length = ov.length := hp2.length_eq
                          subst hyo2
                          have hfw7 := hfw.trans hf7
                          go_loopg [21] ov.length (fun g s21 wr => ∃ k : Nat, s21 = .int .i64 (k : Int) ∧ g = ov.length - k ∧ k ≤ ov.length ∧ IntRow wr lb ys2 ∧ Fr (fun _ => False) w5 wr)
                          case atStart => exact ⟨0, rfl, rfl, Nat.zero_le _, hys2, hfw7⟩
                          case round =>
                            clear hys2 hfw7
                            obtain ⟨k, rfl, rfl, hk, hys2, hfw7⟩ := hrel
                            by_cases hlt3 : k < ov.length
                            · obtain ⟨x, hx⟩ : ∃ x, ys2[k]? = some x := ⟨ys2[k], List.getElem?_eq_getElem (by omega)⟩
                              have cl := hys2.cell hx
                              obtain ⟨og, rfl, co⟩ := own_int (own_fr hpt.own hfw7 (fun _ _ x => x)) hx
                              have hk0 : (0 : Int) ≤ (k : Int) := by omega
                              have hk2 : (k : Int) < (ov.length : Int) := by omega
                              clear hx hpre hov hg hsm
                              go_upto_region 50 with fail
                              go_quiet (fail)
                              go_wp2
                              go_roundg (ov.length - (k + 1))
                              case measure => omega
                              case rel => exact ⟨k + 1, by go_num, rfl, by omega, hys2, hfw7.drewN _⟩
                            · have hk2 : ¬ (k : Int) < (ov.length : Int) := by omega
                              go_wp2_with fail
                              have hB0 : Bools wr kb 65535 (tk X (idx.take 0)) := Bools.congr (Blk.fr hpt.bools hfw7 (fun x => x)) (fun j hj => by rw [hpt.tk j hj]; simp [tk])
                              have hgot0 : IntRow wr gb ((List.range q).map (ixOf idx)) := Blk.fr hgot5 hfw7 (fun x => x)
                              have herr0 := herr5.same hfw7
                              have hfr0 := hfr5.trans hfw7
                              have hkbw : w.heap.size ≤ kb := by have := hpt.new; have := hfr4.size; omega
                              have hgk : gb ≠ kb := Blk.ne hgot0 hB0 (by decide)
                              clear hfw7 hys2 hf7 hfw hys hf6 hnew hfr5 hgot5 herr5 hpt hv4 hrow herr4 hfr4 hp2 hs2 hyl2
                              go_loopg [22, 23, 24] q (fun g s22 s23 s24 wr => ∃ (k nx : Nat), s22 = .int .i64 (nx : Int) ∧ s23 = .int .i64 (k : Int) ∧ g = q - k ∧ k ≤ q ∧ k ≤ idx.length ∧ nx ≤ 65535 ∧ Bools wr kb 65535 (tk X (idx.take k)) ∧ IntRow wr gb ((List.range q).map (ixOf idx)) ∧ ErrList wr w2.heap.size file (.slice ead ps.length ec) ps ∧ Hid (∀ i : Nat, i < nx → tk X (idx.take k) i = true) ∧ Fr (fun _ => False) w wr)
                              case atStart => exact ⟨0, 0, rfl, rfl, rfl, Nat.zero_le _, Nat.zero_le _, by omega, hB0, hgot0, herr0, fun i hi => by omega, hfr0⟩
                              case round =>
                                clear hB0 hgot0 herr0 hfr0
                                obtain ⟨k, nx, rfl, rfl, rfl, hkq, hki, hnx, hB, hgot, herr, hbel, hfr⟩ := hrel
                                by_cases hlt4 : k < q
                                · have hk0 : (0 : Int) ≤ (k : Int) := by omega
                                  have hk1 : (k : Int) < (q : Int) := by omega
                                  go_wp2_with fail
                                  go_loopg [22] (65535 - nx) (fun g s22 wc => ∃ n : Nat, s22 = .int .i64 (n : Int) ∧ g = 65535 - n ∧ n ≤ 65535 ∧ wc = wr ∧ Hid (∀ i : Nat, i < n → tk X (idx.take k) i = true))
                                  case atStart => exact ⟨nx, rfl, rfl, hnx, rfl, hbel⟩
                                  case round =>
                                    obtain ⟨n1, rfl, rfl, hn1, hwr, hbel1⟩ := hrel
                                    have hwr := hwr.symm
                                    subst hwr
                                    by_cases hn5 : n1 < 65535
                                    · have hn0 : (0 : Int) ≤ (n1 : Int) := by omega
                                      have hn2 : (n1 : Int) ≤ 65534 := by omega
                                      have hn3 : (n1 : Int) < 65535 := by omega
                                      have cn1 := hB.cell hn5
                                      cases hT : tk X (idx.take k) n1 with
                                      | true =>
                                        rw [hT] at cn1
                                        have HT : Hid (tk X (idx.take k) n1 = true) := hT
                                        clear hT
                                        go_wp2_with fail
                                        go_roundg (65535 - (n1 + 1))
                                        case measure => omega
                                        case rel =>
                                          refine ⟨n1 + 1, by go_num, rfl, by omega, rfl, fun i hi => ?_⟩
                                          by_cases e : i = n1
                                          · rw [e]; exact HT.out
                                          · exact hbel1.out i (by omega)
                                      | false =>
                                        rw [hT] at cn1
                                        have hkl : k < idx.length := by
                                          rcases Nat.lt_or_ge k idx.length with h | h
                                          · exact h
                                          · exfalso
                                            have hke : k = idx.length := by omega
                                            rcases HR.out with ⟨h1, _⟩ | ⟨_, h2, _⟩
                                            · omega
                                            · rw [hke, List.take_length, h2 n1 (by omega)] at hT; cases hT
                                        have HX : Hid (idx[k]? = some n1) := hg.at_ hkl hT hbel1.out
                                        have cg := hgot.cell (i := k) (z := (n1 : Int)) (by simp [hlt4, ixOf, HX.out])
                                        have ft := Blk.frozen hB n1
                                        have HB : Hid (Bools _ kb 65535 (tk X (idx.take k))) := hB
                                        have HG : Hid (IntRow _ gb ((List.range q).map (ixOf idx))) := hgot
                                        have HE : Hid (ErrList _ w2.heap.size file (.slice ead ps.length ec) ps) := herr
                                        have hb1 : decide ((65534 : Int) < (n1 : Int)) = false := decide_eq_false (by omega)
                                        clear hT hB hgot herr hg hsm hov hpre hpos2 hwf
                                        go_wp2_with fail
                                        go_roundg (q - (k + 1))
                                        case measure => omega
                                        case rel =>
                                          have hB2 : Bools (wr.setCell ⟨kb, n1, none⟩ (.bool true)) kb 65535 (tk X (idx.take (k + 1))) := by
                                            have hB1 := Bools.set HB.out (i := n1) true
                                            refine Bools.congr hB1 (fun j hj => ?_)
                                            rw [take_next' HX.out, tk_snoc]
                                          have hset : Fr (fun b => b = kb) wr (wr.setCell ⟨kb, n1, none⟩ (.bool true)) := Fr.setCell (Fr.refl (fun b => b = kb) wr) (p := ⟨kb, n1, none⟩) (Or.inl rfl) _
                                          have hE2 : ErrList (wr.setCell ⟨kb, n1, none⟩ (.bool true)) w2.heap.size file (.slice ead ps.length ec) ps := by
                                            obtain ⟨es, q1, q2, q3⟩ := HE.out
                                            refine ErrList.fr HE.out hset (fun b hb => ?_)
                                            subst hb
                                            exact ⟨own_ne q1 HB.out (by decide), fun z ⟨msg, hz⟩ => hz.ne HB.out (by decide) rfl⟩
                                          exact ⟨k + 1, n1 + 1, by go_num, by go_num, rfl, by omega, by omega, by omega, hB2, Blk.set_other HG.out (p := ⟨kb, n1, none⟩) hgk _, hE2, fun i hi => by
                                            rw [take_next' HX.out, tk_snoc]
                                            by_cases e : i = n1
                                            · rw [if_pos e]
                                            · rw [if_neg e]; exact hbel1.out i (by omega), Fr.setCell hfr (p := ⟨kb, n1, none⟩) (Or.inr hkbw) _⟩
                                    · have hn2 : ¬ (n1 : Int) ≤ 65534 := by omega
                                      have hall : ∀ j : Nat, j ≤ 65534 → tk X (idx.take k) j = true := fun j hj => hbel1.out j (by omega)
                                      have hke : k = idx.length := by
                                        rcases Nat.lt_or_ge k idx.length with h | h
                                        · exfalso
                                          obtain ⟨x, hx⟩ : ∃ x, idx[k]? = some x := ⟨idx[k], List.getElem?_eq_getElem h⟩
                                          have := (hg k x hx).1
                                          rw [hall x (hsm x (List.mem_of_getElem? hx))] at this; cases this
                                        · omega
                                      obtain ⟨h2a, h2b, h2c⟩ : idx.length < q ∧ cnt = 0 ∧ ps = (ov.map fun x => (x, (0 : Int))) ++ [((-1 : Int), (idx.length : Int) + 1)] := by
                                        rcases HR.out with ⟨h1, _⟩ | ⟨h1, h2, h3, h4⟩
                                        · omega
                                        · exact ⟨h1, h3, h4⟩
                                      have hlast : ps[ov.length]? = some ((-1 : Int), (k : Int) + 1) := by
                                        rw [h2c, hke, List.getElem?_append_right (by simp)]; simp
                                      have hpl2 : ps.length = ov.length + 1 := by rw [h2c]; simp
                                      obtain ⟨eg, ee, rfl, e1, e2, e3, e4⟩ := herr.at_ hlast
                                      simp only at e3 e4
                                      subst h2b
                                      have hz : ∀ m : Nat, k ≤ m → m < q → wr.cell? ⟨gb, m, none⟩ = some (.int .i64 0) := fun m h1 h2 => hgot.cell (i := m) (z := 0) (by
                                        have : idx[m]? = none := List.getElem?_eq_none (by omega)
                                        simp [h2, ixOf, this])
                                      have HZ : Hid (∀ m : Nat, k ≤ m → m < q → wr.cell? ⟨gb, m, none⟩ = some (.int .i64 0)) := hz
                                      have hb1 : decide ((65534 : Int) < (n1 : Int)) = true := decide_eq_true (by omega)
                                      have hb2 : decide ((n1 : Int) ≤ (65534 : Int)) = false := decide_eq_false (by omega)
                                      have hpl3 : (ps.length : Int) = (ov.length : Int) + 1 := by omega
                                      have hv0 : (0 : Int) ≤ (ov.length : Int) := by omega
                                      have hv1 : (ov.length : Int) < (ps.length : Int) := by omega
                                      clear hz hall hke h2a h2c hlast hB hgot herr hg hsm hov hpre hpos2 hwf HR hpl2 hn2
                                      go_wp2_with fail
                                      go_loopg [24] (q - k) (fun g s24 wc => ∃ m : Nat, s24 = .int .i64 (m : Int) ∧ g = q - m ∧ k ≤ m ∧ m ≤ q ∧ wc = wr)
                                      case atStart => exact ⟨k, rfl, rfl, by omega, by omega, rfl⟩
                                      case round =>
                                        obtain ⟨m, rfl, rfl, hm1, hm2, hwr⟩ := hrel
                                        have hwr := hwr.symm
                                        subst hwr
                                        by_cases hlt5 : m < q
                                        · have cm := HZ.out m hm1 hlt5
                                          have hm0 : (0 : Int) ≤ (m : Int) := by omega
                                          have hm3 : (m : Int) < (q : Int) := by omega
                                          go_wp2_with fail
                                          go_roundg (q - (m + 1))
                                          case measure => omega
                                          case rel => exact ⟨m + 1, by go_num, rfl, by omega, by omega, rfl⟩
                                        · have hm3 : ¬ (m : Int) < (q : Int) := by omega
                                          go_wp2_with fail
                                          go_ret
                                          exact ⟨rfl, hfr⟩
                                · have hke : k = q := by omega
                                  have hk1 : ¬ (k : Int) < (q : Int) := by omega
                                  obtain ⟨c, L, hcnt, hc5, hgone, hcl, hgaps, hpse⟩ : ∃ (c : Nat) (L : List Nat), cnt = (c : Int) ∧ c ≤ 65535 ∧ (∀ j : Nat, c ≤ j → j ≤ 65534 → tk X idx j = false) ∧ (c = 0 ∨ tk X idx (c - 1) = true) ∧ IsGaps (tk X idx) c 0 L ∧ ps = (ov.map fun x => (x, (0 : Int))) ++ L.map fun (a : Nat) => ((a : Int), (0 : Int)) := by
                                    rcases HR.out with ⟨_, h⟩ | ⟨h1, _⟩
                                    · exact h
                                    · omega
                                  have hil : idx.length ≤ k := by
                                    rcases HR.out with ⟨h1, _⟩ | ⟨h1, _⟩ <;> omega
                                  rw [List.take_of_length_le hil] at hB
                                  subst hcnt
                                  have hpsl : ps.length = ov.length + L.length := by rw [hpse]; simp
                                  have hpsg : ∀ (i a : Nat), L[i]? = some a → ps[ov.length + i]? = some ((a : Int), (0 : Int)) := by
                                    intro i a hi
                                    rw [hpse, List.getElem?_append_right (by simp)]; simp [hi]
                                  have HP : Hid (∀ (i a : Nat), L[i]? = some a → ps[ov.length + i]? = some ((a : Int), (0 : Int))) := hpsg
                                  have HGo : Hid (∀ j : Nat, c ≤ j → j ≤ 65534 → tk X idx j = false) := hgone
                                  have HCl : Hid (c = 0 ∨ tk X idx (c - 1) = true) := hcl
                                  have HPl : Hid (ps.length = ov.length + L.length) := hpsl
                                  clear hpsl hpsg hgone hcl hpse hg hsm hov hpre hpos2 hwf HR hgot hbel hil hke
                                  have hLl := hgaps.len
                                  go_upto_block 16 with fail
                                  go_cut [25, 26] (fun s25 s26 wc => s25 = .int .i64 ((c : Int) - 1) ∧ wc = wr)
                                  case first =>
                                    go_wp2_with fail
                                    go_loopg [25, 26] 65535 (fun g s25 s26 wc => ∃ J : Nat, s26 = .int .i64 ((J : Int) - 1) ∧ g = J ∧ J ≤ 65535 ∧ wc = wr ∧ ((s25 = .int .i64 (-1) ∧ c ≤ J) ∨ (s25 = .int .i64 ((c : Int) - 1) ∧ 0 < c)))
                                    case atStart => exact ⟨65535, rfl, rfl, by omega, rfl, Or.inl ⟨rfl, by omega⟩⟩
                                    case round =>
                                      obtain ⟨J, rfl, hgJ, hJ, hwr, hst⟩ := hrel
                                      have hgJ := hgJ.symm
                                      subst hgJ
                                      have hwr := hwr.symm
                                      subst hwr
                                      rcases hst with ⟨rfl, hcJ⟩ | ⟨rfl, hc0⟩
                                      · by_cases hJ0 : 0 < J
                                        · obtain ⟨j0, rfl⟩ : ∃ j0, J = j0 + 1 := ⟨J - 1, by omega⟩
                                          rw [show ((j0 + 1 : Nat) : Int) - 1 = (j0 : Int) by omega]
                                          have hj0 : (0 : Int) ≤ (j0 : Int) := by omega
                                          have hj1 : (j0 : Int) < 65535 := by omega
                                          have cj := hB.cell (i := j0) (by omega)
                                          by_cases hjc : c ≤ j0
                                          · rw [HGo.out j0 hjc (by omega)] at cj
                                            go_wp2_with fail
                                            go_roundg j0
                                            case measure => omega
                                            case rel => exact ⟨j0, by go_num, rfl, by omega, rfl, Or.inl ⟨rfl, hjc⟩⟩
                                          · have hce : c = j0 + 1 := by omega
                                            have hcj : tk X idx j0 = true := by
                                              rcases HCl.out with e | e
                                              · omega
                                              · rw [hce] at e; exact e
                                            rw [hcj] at cj
                                            have Hce : Hid (c = j0 + 1) := hce
                                            clear hce hcj
                                            go_wp2_with fail
                                            go_roundg j0
                                            case measure => omega
                                            case rel => exact ⟨j0, by go_num, rfl, by omega, rfl, Or.inr ⟨by have := Hce.out; congr 1; omega, by have := Hce.out; omega⟩⟩
                                        · have Hc0 : Hid (c = 0) := by show c = 0; omega
                                          have hJe : J = 0 := by omega
                                          subst hJe
                                          clear hcJ hJ0
                                          go_wp2_with fail
                                          go_meet
                                          case rel => exact ⟨by have := Hc0.out; congr 1; omega, rfl⟩
                                      · have hc1 : ¬ ((c : Int) - 1 < 0) := by omega
                                        go_wp2_with fail
                                        all_goals (go_meet; case rel => exact ⟨rfl, rfl⟩)
                                  case rest =>
                                    obtain ⟨rfl, hwc⟩ := hcut
                                    have hwc := hwc.symm
                                    subst hwc
                                    go_wp2_with fail
                                    go_loopg [27, 28, 29] c (fun g s27 s28 s29 wc => ∃ (j : Nat) (L1 L2 : List Nat), s28 = .int .i64 (j : Int) ∧ s27 = .int .i64 ((ov.length : Int) + (L1.length : Int)) ∧ g = c - j ∧ j ≤ c ∧ wc = wr ∧ Hid (L = L1 ++ L2) ∧ Hid (Rest (tk X idx) c j L2) ∧ L1.length ≤ L.length)
                                    case atStart => exact ⟨0, [], L, rfl, by simp, rfl, Nat.zero_le _, rfl, rfl, Or.inl ⟨Or.inl rfl, hgaps⟩, by simp⟩
                                    case round =>
                                      obtain ⟨j, L1, L2, rfl, rfl, rfl, hj, hwr, HL, HRs, hL1⟩ := hrel
                                      have hwr := hwr.symm
                                      subst hwr
                                      by_cases hjc : j < c
                                      · have hj0 : (0 : Int) ≤ (j : Int) := by omega
                                        have hj1 : (j : Int) < 65535 := by omega
                                        have hj2 : (j : Int) < (c : Int) := by omega
                                        have cj := hB.cell (i := j) (by omega)
                                        by_cases hskip : tk X idx j = true ∨ (0 < j ∧ tk X idx (j - 1) = false)
                                        · have hR2 : Hid (Rest (tk X idx) c (j + 1) L2) := by
                                            cases hT : tk X idx j with
                                            | true => exact HRs.out.taken hT
                                            | false =>
                                              rcases hskip with e | ⟨e1, e2⟩
                                              · rw [hT] at e; cases e
                                              · exact HRs.out.inside hT e1 e2
                                          go_upto_region 85 with fail
                                          go_cut [288] (fun s wc => s = .bool true ∧ wc = wr)
                                          case first =>
                                            cases hT : tk X idx j with
                                            | true =>
                                              rw [hT] at cj
                                              clear hskip hT
                                              go_wp2_with fail
                                              all_goals (go_meet; case rel => exact ⟨rfl, rfl⟩)
                                            | false =>
                                              rw [hT] at cj
                                              obtain ⟨e1, e2⟩ : 0 < j ∧ tk X idx (j - 1) = false := by
                                                rcases hskip with e | e
                                                · rw [hT] at e; cases e
                                                · exact e
                                              have cp := hB.cell (i := j - 1) (by omega)
                                              rw [e2] at cp
                                              have hp0 : ((0 : Int) < (j : Int)) := by omega
                                              have hp1 : (0 : Int) ≤ (j : Int) - 1 := by omega
                                              have hp2 : (j : Int) - 1 < 65535 := by omega
                                              have hp3 : ((j : Int) - 1).toNat = j - 1 := by omega
                                              clear hskip hT e2
                                              go_wp2_with fail
                                              all_goals (go_meet; case rel => exact ⟨rfl, rfl⟩)
                                          case rest =>
                                            obtain ⟨rfl, hwc⟩ := hcut
                                            have hwc := hwc.symm
                                            subst hwc
                                            go_wp2_with fail
                                            go_roundg (c - (j + 1))
                                            case measure => omega
                                            case rel => exact ⟨j + 1, L1, L2, by go_num, rfl, rfl, by omega, rfl, HL, hR2, hL1⟩
                                        · have hT : tk X idx j = false := by
                                            cases hT : tk X idx j with
                                            | true => exact absurd (Or.inl hT) hskip
                                            | false => rfl
                                          have hp : j = 0 ∨ tk X idx (j - 1) = true := by
                                            by_cases e : j = 0
                                            · exact Or.inl e
                                            · cases hT2 : tk X idx (j - 1) with
                                              | true => exact Or.inr rfl
                                              | false => exact absurd (Or.inr ⟨by omega, hT2⟩) hskip
                                          obtain ⟨ga, L3, hL2, hga1, hga2, hga3, hga4, hR3⟩ := HRs.out.opens hjc hT hp
                                          rw [hT] at cj
                                          go_upto_region 85 with fail
                                          go_cut [288] (fun s wc => s = .bool false ∧ wc = wr)
                                          case first =>
                                            rcases hp with e | e
                                            · have H0 : Hid (j = 0) := e
                                              have hp0 : decide (0 < j) = false := by simp; omega
                                              clear hskip hT e hga3 hga4
                                              go_wp2_with fail
                                              all_goals (go_meet; case rel => exact ⟨rfl, rfl⟩)
                                            · by_cases e0 : j = 0
                                              · have H0 : Hid (j = 0) := e0
                                                have hp0 : decide (0 < j) = false := by simp; omega
                                                clear hskip hT e e0 hga3 hga4
                                                go_wp2_with fail
                                                all_goals (go_meet; case rel => exact ⟨rfl, rfl⟩)
                                              · have cp := hB.cell (i := j - 1) (by omega)
                                                rw [e] at cp
                                                have hp0 : ((0 : Int) < (j : Int)) := by omega
                                                have hp1 : (0 : Int) ≤ (j : Int) - 1 := by omega
                                                have hp2 : (j : Int) - 1 < 65535 := by omega
                                                have hp3 : ((j : Int) - 1).toNat = j - 1 := by omega
                                                have ej : 0 < j := by omega
                                                clear hskip hT e hga3 hga4 e0
                                                go_wp2_with fail
                                                all_goals (go_meet; case rel => exact ⟨rfl, rfl⟩)
                                          case rest =>
                                            obtain ⟨rfl, hwc⟩ := hcut
                                            have hwc := hwc.symm
                                            subst hwc
                                            have hLe : L = (L1 ++ [ga]) ++ L3 := by rw [HL.out, hL2]; simp
                                            have hat : L[L1.length]? = some ga := by rw [hLe]; simp
                                            have hl1 : L1.length < L.length := (List.getElem?_eq_some_iff.1 hat).1
                                            have HL3 : Hid (L = (L1 ++ [ga]) ++ L3) := hLe
                                            have HR3 : Hid (Rest (tk X idx) c (j + 1) L3) := hR3
                                            have HG3 : Hid (tk X idx ga = true) := hga3
                                            have HG4 : Hid (∀ i : Nat, j < i → i < ga → tk X idx i = false) := hga4
                                            obtain ⟨eg, ee, rfl, e1, e2, e3, e4⟩ := herr.at_ (HP.out _ _ hat)
                                            simp only at e3 e4
                                            clear hskip hT hp hLe hat hR3 hga3 hga4 hL2 hgaps
                                            go_wp2_with fail
                                            go_loopg [29] (ga - (j + 1)) (fun g s29 wc => ∃ ab : Nat, s29 = .int .i64 (ab : Int) ∧ g = ga - ab ∧ j < ab ∧ ab ≤ ga ∧ wc = wr)
                                            case atStart => exact ⟨j + 1, by go_num, rfl, by omega, by omega, rfl⟩
                                            case round =>
                                              obtain ⟨ab, rfl, rfl, hab1, hab2, hwr⟩ := hrel
                                              have hwr := hwr.symm
                                              subst hwr
                                              have ha0 : (0 : Int) ≤ (ab : Int) := by omega
                                              have ha1 : (ab : Int) < 65535 := by omega
                                              have ha2 : (ab : Int) < (c : Int) := by omega
                                              have ca := hB.cell (i := ab) (by omega)
                                              by_cases hag : ab < ga
                                              · rw [HG4.out ab hab1 hag] at ca
                                                go_wp2_with fail
                                                go_roundg (ga - (ab + 1))
                                                case measure => omega
                                                case rel => exact ⟨ab + 1, by go_num, rfl, by omega, by omega, rfl⟩
                                              · have hae : ab = ga := by omega
                                                rw [hae, HG3.out] at ca
                                                rw [← hae] at ca e3
                                                have Hae : Hid (ab = ga) := hae
                                                have hv0 : (0 : Int) ≤ (ov.length : Int) + (L1.length : Int) := by omega
                                                have hv1 : (ov.length : Int) + (L1.length : Int) < (ps.length : Int) := by have := HPl.out; omega
                                                have hv2 : decide ((ps.length : Int) ≤ (ov.length : Int) + (L1.length : Int)) = false := decide_eq_false (by omega)
                                                have hv3 : ((ov.length : Int) + (L1.length : Int)).toNat = ov.length + L1.length := by omega
                                                clear hae hag
                                                go_wp2_with fail
                                                go_roundg (c - (j + 1))
                                                case measure => omega
                                                case rel => exact ⟨j + 1, L1 ++ [ga], L3, by go_num, by congr 1; simp; omega, rfl, by omega, rfl, HL3, HR3, by simp; omega⟩
                                      · have hj2 : ¬ (j : Int) < (c : Int) := by omega
                                        have hje : j = c := by omega
                                        have hLn : L2 = [] := by have := HRs.out; rw [hje] at this; exact this.end_
                                        have hLL : L1.length = L.length := by rw [HL.out, hLn]; simp
                                        have hLL2 : (ov.length : Int) + (L1.length : Int) = (ps.length : Int) := by have := HPl.out; omega
                                        have HLL : Hid (L1.length = L.length) := hLL
                                        clear hLL hLn hje hgaps
                                        go_wp2_with fail
                                        go_ret
                                        exact ⟨rfl, hfr⟩
      · go_enter Tryf.func3, Tryf.ntmps3
        go_wp2_with (go_at_call 5; refine (hby _).mono ?_; rintro e w1 ⟨rfl, hw1⟩; have hw1 := hw1.symm; subst hw1)
        go_ret
        exact ⟨rfl, Fr.refl _ _⟩
    · go_enter Tryf.func3, Tryf.ntmps3
      go_wp2_with (go_at_call 5; refine (hby _).mono ?_; rintro e w1 ⟨rfl, hw1⟩; have hw1 := hw1.symm; subst hw1)
      go_ret
      exact ⟨rfl, Fr.refl _ _⟩
  · simp only [h1, decide_false] at hby
    go_enter Tryf.func3, Tryf.ntmps3
    go_wp2_with (go_at_call 5; refine (hby _).mono ?_; rintro e w1 ⟨rfl, hw1⟩; have hw1 := hw1.symm; subst hw1)
    go_ret
    exact ⟨rfl, Fr.refl _ _⟩
end Go.Proofs.Qxb6616573aFmt
