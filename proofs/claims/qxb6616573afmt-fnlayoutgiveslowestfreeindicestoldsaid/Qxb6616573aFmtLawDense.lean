import Derived.Test.Qxb6616573aFmtDense
import Derived.Deep.DeepCutAuto
namespace Go.Proofs.Qxb6616573aFmt
open Go.RowKit
open Go.Extern.Stop Go.Stop Go.Extern
set_option linter.unusedVariables false
set_option linter.unusedSimpArgs false
theorem IsRow.at_ {w : World} {a : Option Addr} {len cap : Nat} {zs : List Int} (h : IsRow w a len cap zs) {k : Nat} (hk : k < len) : ∃ b off z, a = some ⟨b, off, none⟩ ∧ zs[k]? = some z ∧ w.cell? ⟨b, off + k, none⟩ = some (.int .i64 z) := by
  rcases h with ⟨_, rfl, _⟩ | ⟨x, rfl, h1, h2, h3, h4, _⟩
  · omega
  · have hc := h4 k (by omega)
    obtain ⟨b, off, sp⟩ := x
    have hsp : sp = none := by simpa [Addr.add] using World.cell?_spot (h4 0 (by omega))
    subst hsp
    have ea : (⟨b, off, none⟩ : Addr).add k = ⟨b, off + k, none⟩ := by by_cases e : k = 0 <;> simp [Addr.add, e]
    rw [ea] at hc
    refine ⟨b, off, zs.getD k 0, rfl, ?_, hc⟩
    rw [List.getD_eq_getElem?_getD, List.getElem?_eq_getElem (by omega)]; rfl
theorem own_shape {w : World} {base : Nat} {e : TypeId} {size : Nat} {v : Value} {n : Nat} {xs : List Value} (h : w.ownsRow base e size v n xs) : ∃ ad c, v = .slice ad n c := by
  rcases h.2 with ⟨rfl, rfl⟩ | ⟨g, cap, cur, rfl, _⟩
  · exact ⟨none, 0, rfl⟩
  · exact ⟨_, _, rfl⟩
theorem ErrList.shape {w : World} {base : Nat} {file : ByteArray} {v : Value} {ps : List (Int × Int)} (h : ErrList w base file v ps) : ∃ ad c, v = .slice ad ps.length c := by
  obtain ⟨es, h1, _⟩ := h
  exact own_shape h1
set_option maxRecDepth 100000 in
set_option maxHeartbeats 3200000 in
theorem law4 (F : Stop.Interp) (built : Bool) (a : Option Addr) (len cap : Nat) (zs : List Int) (p : Int) (file : ByteArray) (w : World) (hF : F.answers w.tape) (h : IsRow w a len cap zs) (hfile : file.size ≤ 9223372036854775807) (hlen : len ≤ 9223372036854775807) :
    Calls Tryf.prog 4 #[.bool built, .slice a len cap, .int .i64 p, .string file] w fun e w' => e = .returned (.bool true) ∧ Fr (fun _ => False) w w' := by
  have hby := fun W => zzbytes13 a len cap built p file hlen hfile W
  by_cases h1 : len + file.size ≤ 1048576
  · simp only [h1, decide_true] at hby
    by_cases h2 : len ≤ 131072
    · by_cases h3 : 8 * len + file.size ≤ 1048576
      · by_cases h4 : p < 0
        · go_enter Tryf.func4, Tryf.ntmps4
          go_wp2_with (go_at_call 13; refine (hby _).mono ?_; rintro e w1 ⟨rfl, hw1⟩; have hw1 := hw1.symm; subst hw1)
          go_ret
          exact ⟨rfl, Fr.refl _ _⟩
        · by_cases h5 : 65536 < p
          · go_enter Tryf.func4, Tryf.ntmps4
            go_wp2_with (go_at_call 13; refine (hby _).mono ?_; rintro e w1 ⟨rfl, hw1⟩; have hw1 := hw1.symm; subst hw1)
            go_ret
            exact ⟨rfl, Fr.refl _ _⟩
          · obtain ⟨q, rfl⟩ := Int.eq_ofNat_of_zero_le (show 0 ≤ p by omega)
            have hq : q ≤ 65536 := by omega
            go_enter Tryf.func4, Tryf.ntmps4
            go_wp2_with (go_at_call 13; refine (hby _).mono ?_; rintro e w1 ⟨rfl, hw1⟩; have hw1 := hw1.symm; subst hw1)
            go_loopg [9] len (fun g s9 wr => ∃ k : Nat, s9 = .int .i64 (k : Int) ∧ g = len - k ∧ k ≤ len ∧ wr = w ∧ Hid (∀ x, x ∈ zs.take k → 0 ≤ x))
            case atStart => exact ⟨0, rfl, rfl, Nat.zero_le _, rfl, fun x hx => by simp at hx⟩
            case round =>
              obtain ⟨k, rfl, rfl, hk, hwr, hpos⟩ := hrel
              have hwr := hwr.symm
              subst hwr
              by_cases hlt : k < len
              · obtain ⟨b, off, z, rfl, hzk, hc⟩ := h.at_ hlt
                have hki : ((k : Int) < (len : Int)) := by omega
                have hk0 : (0 : Int) ≤ (k : Int) := by omega
                by_cases hz : z < 0
                · go_wp2_with fail
                  go_ret
                  exact ⟨rfl, Fr.refl _ _⟩
                · go_wp2_with fail
                  go_roundg (len - (k + 1))
                  case measure => omega
                  case rel =>
                    refine ⟨k + 1, by go_num, rfl, by omega, rfl, fun x hx => ?_⟩
                    rw [take_next hzk, List.mem_append] at hx
                    rcases hx with hx | hx
                    · exact hpos.out x hx
                    · simp at hx; omega
              · have hki : ¬ ((k : Int) < (len : Int)) := by omega
                have hke : k = len := by omega
                have hpos2 : ∀ x, x ∈ zs.take len → 0 ≤ x := by rw [← hke]; exact hpos.out
                have hwf : ∀ x, x ∈ zs.take len → (Lit.int .i64 x).wf = true := by
                  intro x hx
                  rcases h with ⟨_, _, _, rfl⟩ | ⟨_, _, _, _, _, _, hw⟩
                  · simp at hx
                  · exact hw x (List.mem_of_mem_take hx)
                have hXl : (zs.take len).length ≤ 131072 := by simp; omega
                have hcl := clone a len cap zs w h h2
                clear hpos hby hke hk
                generalize zs.take len = X at *
                cases built with
                | false =>
                  go_wp2_with (first
                    | (go_at_call 6; refine hcl.mono ?_; rintro e w1 ⟨v1, rfl, hv1, hf1⟩)
                    | (go_at_call 7; refine (newtable false v1 X q hq hwf hXl _ hv1).mono ?_; rintro e w2 ⟨tb, rfl, mb, n, pv, bt, pb, hmd⟩; obtain ⟨pcap, pa, v2, v3, htab⟩ := hmd.table)
                    | (go_at_call 8; refine (zzlayout_not tb mb n q pcap pa v2 v3 X bt pb file _ htab).mono ?_; rintro e w3 ⟨rfl, hf3⟩; have htab3 := htab.fr hf3 (fun x => x) (fun x => x) (fun _ _ x => x) (fun _ _ _ x => x) (fun _ _ x => x))
                    | (go_at_call 9; refine (placedIx htab3 hq).mono ?_; rintro e w4 ⟨gb, rfl, hgb, hrow, hf4⟩; have htab4 := htab3.fr hf4 (fun x => x) (fun x => x) (fun _ _ x => x) (fun _ _ _ x => x) (fun _ _ x => x))
                    | (go_at_call 10; refine (zzcount htab4).mono ?_; rintro e w5 ⟨rfl, hw5⟩; have hw5 := hw5.symm; subst hw5))
                  go_ret
                  exact ⟨rfl, ((hf1.trans (hmd.fr)).trans hf3).trans hf4⟩
                | true =>
                  go_wp2_with (first
                    | (go_at_call 6; refine hcl.mono ?_; rintro e w1 ⟨v1, rfl, hv1, hf1⟩)
                    | (go_at_call 7; refine (newtable true v1 X q hq hwf hXl _ hv1).mono ?_; rintro e w2 ⟨tb, rfl, mb, n, pv, bt, pb, hmd⟩; obtain ⟨pcap, pa, v2, v3, htab⟩ := hmd.table; have hF2 : F.answers w2.tape := (by rw [hmd.fr.tape, hf1.tape]; exact hF))
                    | (go_at_call 8; refine (zzlayout_built F tb mb n q pcap pa v2 v3 X bt pb file _ hF2 htab hpos2 hq hXl).mono ?_; rintro e w3 ⟨ev, rfl, idx, cnt, ps, herr, htab3, hf3, hspec⟩; obtain ⟨ead, ec, hev⟩ := herr.shape; subst hev)
                    | (go_at_call 9; refine (placedIx htab3 hq).mono ?_; rintro e w4 ⟨gb, rfl, hgb, hrow, hf4⟩; have htab4 := htab3.fr hf4 (fun x => x) (fun x => x) (fun _ _ x => x) (fun _ _ _ x => x) (fun _ _ x => x); have hv4 := (((hv1.fr hmd.fr (fun _ _ x => x)).fr hf3 (fun b hb e => (by rcases e with e | ⟨k, hk, e⟩; exact Blk.ne hb htab.tbl (by decide) e; exact Blk.ne hb (htab.placed k hk) (by decide) e))).fr hf4 (fun _ _ x => x)))
                    | (go_at_call 10; refine (zzcount htab4).mono ?_; rintro e w5 ⟨rfl, hw5⟩; have hw5 := hw5.symm; subst hw5)
                    | (go_at_call 11; refine (fixedSplit v1 X _ hv4 hXl hpos2).mono ?_; rintro e w5 ⟨kb, ov, rfl, T, over, hpt⟩; obtain ⟨oad, oc, hov⟩ := own_shape hpt.own; subst hov))
                  have hgot : IntRow w5 gb ((List.range q).map (ixOf idx)) := Blk.fr hrow hpt.fr (fun x => x)
                  have hB := hpt.bools
                  have hs1 := hf1.size
                  have hfr5 : Fr (fun _ => False) w w5 := (((hf1.trans hmd.fr).step hf3 (fun i hi e => by
                    rcases e with e | ⟨k, hk, e⟩
                    · have := hmd.stb; omega
                    · have := hmd.spb k hk; omega)).trans hf4).trans hpt.fr
                  have hkbw : w.heap.size ≤ kb := by have := hpt.new; have := (((hf1.trans hmd.fr).step hf3 (fun i hi e => by
                    rcases e with e | ⟨k, hk, e⟩
                    · have := hmd.stb; omega
                    · have := hmd.spb k hk; omega)).trans hf4).size; omega
                  have hgk : gb ≠ kb := Blk.ne hgot hB (by decide)
                  have htk := hpt.tk
                  have hmem := hpt.mem
                  clear hpt hf4 hf3 hf1 hmd htab htab3 htab4 hv1 hv4 hrow herr hF2 hcl h
                  go_loopg [16, 17, 18] 65535 (fun g s16 s17 s18 wr => ∃ (j nF : Nat) (M : Int), s16 = .int .i64 (nF : Int) ∧ s17 = .int .i64 M ∧ s18 = .int .i64 (j : Int) ∧ g = 65535 - j ∧ j ≤ 65535 ∧ wr = w5 ∧ Hid (nF = cn (fixB X) j) ∧ nF ≤ j ∧ IsMax (fixB X) j M)
                  case atStart => exact ⟨0, 0, -1, rfl, rfl, rfl, rfl, by omega, rfl, (cn_zero _).symm, by omega, IsMax.zero _⟩
                  case round =>
                    obtain ⟨j, nF, M, rfl, rfl, rfl, rfl, hj, hwr, hnF, hnj, hM⟩ := hrel
                    have hwr := hwr.symm
                    subst hwr
                    have hMlo := hM.lo
                    have hMhi := hM.hi
                    by_cases hlt : j < 65535
                    · have cj := hB.cell hlt
                      rw [htk j hlt] at cj
                      have hj0 : (0 : Int) ≤ (j : Int) := by omega
                      have hj1 : (j : Int) ≤ 65534 := by omega
                      have hj2 : (j : Int) < 65535 := by omega
                      cases hT : fixB X j with
                      | true =>
                        rw [hT] at cj
                        go_wp2_with fail
                        go_roundg (65535 - (j + 1))
                        case measure => omega
                        case rel => exact ⟨j + 1, nF + 1, j, by go_num, rfl, by go_num, rfl, by omega, rfl, (by show nF + 1 = cn (fixB X) (j + 1); rw [cn_put1 hT]; have := hnF.out; omega), by omega, IsMax.put hT⟩
                      | false =>
                        rw [hT] at cj
                        go_wp2_with fail
                        go_roundg (65535 - (j + 1))
                        case measure => omega
                        case rel => exact ⟨j + 1, nF, M, rfl, rfl, by go_num, rfl, by omega, rfl, (by show nF = cn (fixB X) (j + 1); rw [cn_skip1 hT]; exact hnF.out), by omega, hM.skip hT⟩
                    · have hje : j = 65535 := by omega
                      rw [hje] at hM hnF
                      have hdi := dense_iff hspec hM hmem
                      rw [← hnF.out] at hdi
                      have hdo : ps = [] → DenseOut X q idx cnt := fun e => (hdi.1 e).2
                      have hj1 : ¬ (j : Int) ≤ 65534 := by omega
                      have hone : ∀ x, ps = x → True := fun _ _ => trivial
                      by_cases hD : Dense nF q M over
                      · have hps := hdi.2 hD
                        obtain ⟨hD1, hD2, hD3⟩ := hD
                        have hO := hdo hps
                        subst hD1
                        subst hps
                        obtain ⟨o1, o2, o3, o4, o5⟩ := hO
                        rw [← hnF.out] at o2
                        have hcnt : cnt = ((nF + q : Nat) : Int) := by omega
                        clear o2
                        subst hcnt
                        have hd1 : (nF : Int) + (q : Int) ≤ 65535 := by omega
                        have hd2 : M + 1 ≤ (nF : Int) + (q : Int) := hD3
                        clear hdi hdo hone hM hmem hnF
                        go_wp2_with fail
                        go_loopg [20, 21] q (fun g s20 s21 wr => ∃ k : Nat, s20 = .int .i64 (k : Int) ∧ g = q - k ∧ k ≤ q ∧ Bools wr kb 65535 (tk X (idx.take k)) ∧ IntRow wr gb ((List.range q).map (ixOf idx)) ∧ Fr (fun _ => False) w wr)
                        case atStart => exact ⟨0, rfl, rfl, Nat.zero_le _, hB.congr (fun j hj => by rw [htk j hj]; simp [tk]), hgot, hfr5⟩
                        case round =>
                          clear hB hgot hfr5
                          obtain ⟨k, rfl, rfl, hk, hB, hgot, hfr⟩ := hrel
                          by_cases hlt2 : k < q
                          · obtain ⟨x, hx⟩ : ∃ x, idx[k]? = some x := ⟨idx[k], List.getElem?_eq_getElem (by omega)⟩
                            have hg1 := (hspec.greedy k x hx).1
                            have hxm := List.mem_of_getElem? hx
                            have hx1 := hspec.small x hxm
                            have hx2 : tk X idx x = true := by unfold tk; simp [hxm]
                            have hx3 : (x : Int) < ((nF + q : Nat) : Int) := by
                              rcases Int.lt_or_le (x : Int) ((nF + q : Nat) : Int) with h | h
                              · exact h
                              · rw [o5 x h hx1] at hx2; cases hx2
                            have cg : wr.cell? ⟨gb, k, none⟩ = some (.int .i64 (x : Int)) := hgot.cell (by simp [hlt2, ixOf, hx])
                            have ct := hB.cell (i := x) (by omega)
                            rw [hg1] at ct
                            have ft := Blk.frozen hB x
                            have hk0 : (0 : Int) ≤ (k : Int) := by omega
                            have hk1 : (k : Int) < (q : Int) := by omega
                            have hx0 : (0 : Int) ≤ (x : Int) := by omega
                            have hx5 : (x : Int) < 65535 := by omega
                            have hx6 : (x : Int) < (nF : Int) + (q : Int) := by omega
                            have HX : Hid (idx[k]? = some x) := hx
                            have HB : Hid (Bools wr kb 65535 (tk X (idx.take k))) := hB
                            have HG : Hid (IntRow wr gb ((List.range q).map (ixOf idx))) := hgot
                            clear o4 o5 htk hspec hg1 hx2 hx3 o1 hx hxm hB hgot
                            have hb1 : decide ((x : Int) < 0) = false := decide_eq_false (by omega)
                            have hb2 : decide ((nF : Int) + (q : Int) ≤ (x : Int)) = false := decide_eq_false (by omega)
                            go_upto_region 43 with fail
                            go_cut [153] (fun s153 wc => s153 = .bool false ∧ wc = wr)
                            case first =>
                              clear hd1 hd2 hD2 hD3 hk hx1
                              go_wp2_with fail
                              go_meet
                              case rel => exact ⟨rfl, rfl⟩
                            case rest =>
                              obtain ⟨rfl, hwc⟩ := hcut
                              have hwc := hwc.symm
                              subst hwc
                              clear hb1 hb2
                              go_wp2_with fail
                              go_roundg (q - (k + 1))
                              case measure => omega
                              case rel =>
                                have hB2 : Bools (wr.setCell ⟨kb, x, none⟩ (.bool true)) kb 65535 (tk X (idx.take (k + 1))) := by
                                  have hB1 := Bools.set HB.out (i := x) true
                                  refine Bools.congr hB1 (fun j hj => ?_)
                                  rw [take_next' HX.out, tk_snoc]
                                have hg2 : IntRow (wr.setCell ⟨kb, x, none⟩ (.bool true)) gb ((List.range q).map (ixOf idx)) := Blk.set_other HG.out (p := ⟨kb, x, none⟩) hgk _
                                have hfr2 : Fr (fun _ => False) w (wr.setCell ⟨kb, x, none⟩ (.bool true)) := Fr.setCell hfr (p := ⟨kb, x, none⟩) (Or.inr hkbw) _
                                exact ⟨k + 1, by go_num, rfl, by omega, hB2, hg2, hfr2⟩
                          · have hke : k = q := by omega
                            rw [hke, List.take_of_length_le (by omega)] at hB
                            have hk1 : ¬ (k : Int) < (q : Int) := by omega
                            go_wp2_with fail
                            go_loopg [22] (nF + q) (fun g s22 wc => ∃ j : Nat, s22 = .int .i64 (j : Int) ∧ g = nF + q - j ∧ j ≤ nF + q ∧ wc = wr)
                            case atStart => exact ⟨0, rfl, rfl, Nat.zero_le _, rfl⟩
                            case round =>
                              obtain ⟨j, rfl, rfl, hj, hwr⟩ := hrel
                              have hwr := hwr.symm
                              subst hwr
                              by_cases hj2 : j < nF + q
                              · have cj := hB.cell (i := j) (by omega)
                                rw [o4 j (by omega)] at cj
                                have hj0 : (0 : Int) ≤ (j : Int) := by omega
                                have hj3 : (j : Int) < (nF : Int) + (q : Int) := by omega
                                have hj5 : (j : Int) < 65535 := by omega
                                go_wp2_with fail
                                go_roundg (nF + q - (j + 1))
                                case measure => omega
                                case rel => exact ⟨j + 1, by go_num, rfl, by omega, rfl⟩
                              · have hj3 : ¬ (j : Int) < (nF : Int) + (q : Int) := by omega
                                go_wp2_with fail
                                go_ret
                                exact ⟨rfl, hfr⟩
                      · have hpn : ¬ ps = [] := fun e => hD (hdi.1 e).1
                        have hpl : ps.length ≠ 0 := fun e => hpn (List.eq_nil_of_length_eq_zero e)
                        have hpl2 : ((ps.length : Int) == 0) = false := beq_eq_false_iff_ne.2 (by omega)
                        have hpl3 : ¬ (ps.length : Int) = 0 := by omega
                        by_cases hD1 : over.length = 0
                        · have hD0 : over = [] := List.eq_nil_of_length_eq_zero hD1
                          by_cases hD2 : nF + q ≤ 65535
                          · have hD3 : ¬ M + 1 ≤ (nF : Int) + q := fun e => hD ⟨hD0, hD2, e⟩
                            have hd1 : (nF : Int) + (q : Int) ≤ 65535 := by omega
                            subst hD0
                            clear hdi hdo hone hM hmem hnF hspec
                            go_wp2_with fail
                            go_ret
                            exact ⟨rfl, hfr5⟩
                          · have hd1 : ¬ (nF : Int) + (q : Int) ≤ 65535 := by omega
                            subst hD0
                            clear hdi hdo hone hM hmem hnF hspec
                            go_wp2_with fail
                            go_ret
                            exact ⟨rfl, hfr5⟩
                        · have hol2 : ((over.length : Int) == 0) = false := beq_eq_false_iff_ne.2 (by omega)
                          have hol3 : ¬ (over.length : Int) = 0 := by omega
                          clear hdi hdo hone hM hmem hnF hspec
                          go_wp2_with fail
                          go_ret
                          exact ⟨rfl, hfr5⟩
      · go_enter Tryf.func4, Tryf.ntmps4
        go_wp2_with (go_at_call 13; refine (hby _).mono ?_; rintro e w1 ⟨rfl, hw1⟩; have hw1 := hw1.symm; subst hw1)
        go_ret
        exact ⟨rfl, Fr.refl _ _⟩
    · go_enter Tryf.func4, Tryf.ntmps4
      go_wp2_with (go_at_call 13; refine (hby _).mono ?_; rintro e w1 ⟨rfl, hw1⟩; have hw1 := hw1.symm; subst hw1)
      go_ret
      exact ⟨rfl, Fr.refl _ _⟩
  · simp only [h1, decide_false] at hby
    go_enter Tryf.func4, Tryf.ntmps4
    go_wp2_with (go_at_call 13; refine (hby _).mono ?_; rintro e w1 ⟨rfl, hw1⟩; have hw1 := hw1.symm; subst hw1)
    go_ret
    exact ⟨rfl, Fr.refl _ _⟩
end Go.Proofs.Qxb6616573aFmt
