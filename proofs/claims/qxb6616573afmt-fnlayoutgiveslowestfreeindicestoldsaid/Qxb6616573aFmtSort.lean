import Derived.Test.Qxb6616573aFmtSorted
import Derived.Deep.QuietTactic
import Derived.BigQuiet
import Derived.Deep.DeepCutAuto
namespace Go.Proofs.Qxb6616573aFmt
open Go.RowKit
set_option linter.unusedVariables false
set_option linter.unusedSimpArgs false
theorem copy_of (w : World) (v : Value) (zs : List Int) (h : IntSl w v zs) :
    ∃ w2, (Builtin.copy_ #[22, 22] 3 #[.slice (some ⟨w.heap.size, 0, none⟩) zs.length zs.length, v]).run Tryf.prog (w.alloc (.cells (Array.replicate zs.length (.int .i64 0)) 3)) = .ok (.int .i64 zs.length) w2 ∧ IntRow w2 w.heap.size zs ∧
      Fr (fun _ => False) w w2 ∧ w2.heap.size = w.heap.size + 1 := by
  have hnew := IntRow.new w (List.replicate zs.length (0 : Int))
  simp only [List.map_replicate, List.toArray_replicate] at hnew
  have hfr := (Fr.refl (fun _ => False) w).alloc (.cells (Array.replicate zs.length (.int .i64 0)) 3)
  rcases h with ⟨rfl, rfl⟩ | ⟨b, rfl, h2⟩
  · refine ⟨_, run_copy_nil (P := Tryf.prog) _ 22 22 3 3 ⟨w.heap.size, 0, none⟩ 0 0 Tryf.underlying22 (by kernel_rfl), ?_, hfr, by simp⟩
    simpa using hnew
  · have hlt := Blk.lt h2
    have hr := run_copy_row (P := Tryf.prog) (w.alloc (.cells (Array.replicate zs.length (.int .i64 0)) 3)) 22 22 3 3 w.heap.size 0 zs.length zs.length ⟨b, 0, none⟩ zs.length zs.length _ 3 (zs.map fun z => Value.int .i64 z) Tryf.underlying22 size3 hnew (by simp) (fun j v hj => by
      simp at hj
      obtain ⟨z, h1, rfl⟩ := hj
      have ea : (⟨b, 0, none⟩ : Addr).add j = ⟨b, j, none⟩ := by by_cases e : j = 0 <;> simp [Addr.add, e]
      rw [ea, hfr.cell (p := ⟨b, j, none⟩) hlt (fun x => x)]
      exact h2.cell h1) (by simp) (one_ints zs)
    have e : ((List.replicate zs.length (0 : Int)).map fun z => Value.int .i64 z).toArray.toList.take 0 ++ (zs.map fun z => Value.int .i64 z) ++ ((List.replicate zs.length (0 : Int)).map fun z => Value.int .i64 z).toArray.toList.drop (0 + (zs.map fun z => Value.int .i64 z).length) = zs.map fun z => Value.int .i64 z := by
      simp
    rw [e] at hr
    refine ⟨(w.alloc (.cells (Array.replicate zs.length (.int .i64 0)) 3)).setRow w.heap.size (zs.map fun z => Value.int .i64 z).toArray, ?_, setRow_blk hnew, hfr.step (setRow_fr _ _ _) (fun i hi e => by omega), by simp [World.setRow]⟩
    rw [hr]
    simp [goInt]
set_option maxRecDepth 100000 in
set_option maxHeartbeats 1600000 in
theorem sortInts (v : Value) (zs : List Int) (w : World) (hv : IntSl w v zs) (hl : zs.length ≤ 131072) :
    Calls Tryf.prog 12 #[v] w fun e w' => ∃ b, e = .returned (.slice (some ⟨b, 0, none⟩) zs.length zs.length) ∧ w.heap.size ≤ b ∧ ∃ ys, IntRow w' b ys ∧ ys.Perm zs ∧ Srt ys ∧ Fr (fun _ => False) w w' := by
  obtain ⟨w2, hcp, hrow, hfr, hsz⟩ := copy_of w v zs hv
  obtain ⟨a, rfl, -⟩ := hv.eval
  have hmk := fun W => make22 W zs.length (by omega)
  go_enter Tryf.func12, Tryf.ntmps12
  go_wp2_with fail
  have hd0 := IntRow.new w2 (List.replicate zs.length (0 : Int))
  simp only [List.map_replicate, List.toArray_replicate] at hd0
  have hs0 : IntRow (w2.alloc (.cells (Array.replicate zs.length (.int .i64 0)) 3)) w.heap.size zs := Blk.alloc hrow _
  have hf0 : Fr (fun _ => False) w (w2.alloc (.cells (Array.replicate zs.length (.int .i64 0)) 3)) := hfr.alloc _
  rw [hsz] at hd0
  generalize w2.alloc (.cells (Array.replicate zs.length (.int .i64 0)) 3) = w3 at *
  clear hcp hrow hfr hmk hsz
  go_loopg [4, 5, 6, 7, 8, 9, 10, 11, 12] (zs.length - 1) (fun g s4 s5 s6 s7 s8 s9 s10 s11 s12 wr => ∃ (sb db wd : Nat) (S D : List Int), s4 = .slice (some ⟨sb, 0, none⟩) zs.length zs.length ∧ s5 = .slice (some ⟨db, 0, none⟩) zs.length zs.length ∧ s6 = .int .i64 (wd : Int) ∧
    g = zs.length - wd ∧ 1 ≤ wd ∧ wd ≤ 262144 ∧ sb ≠ db ∧ w.heap.size ≤ sb ∧ w.heap.size ≤ db ∧ IntRow wr sb S ∧ IntRow wr db D ∧ D.length = zs.length ∧ S.Perm zs ∧ Runs wd S ∧ Fr (fun _ => False) w wr)
  case atStart => exact ⟨w.heap.size, w.heap.size + 1, 1, zs, _, rfl, rfl, rfl, by omega, by omega, by omega, by omega, by omega, by omega, hs0, hd0, by simp, List.Perm.refl _, Runs.one zs, hf0⟩
  case round =>
    obtain ⟨sb, db, wd, S, D, rfl, rfl, rfl, rfl, hw1, hw2, hne, hsb, hdb, hS, hD, hDl, hSp, hR, hfr⟩ := hrel
    have hSl : S.length = zs.length := hSp.length_eq
    by_cases hlt : wd < zs.length
    · have hki : ((wd : Int) < (zs.length : Int)) := by omega
      go_wp2_with fail
      go_loopg [7, 8, 9, 10, 11, 12] zs.length (fun g s7 s8 s9 s10 s11 s12 wr => ∃ (lo : Nat) (D : List Int), s7 = .int .i64 (lo : Int) ∧ g = zs.length - lo ∧ lo ≤ 1000000 ∧ IntRow wr sb S ∧ IntRow wr db D ∧ D.length = zs.length ∧ Passed wd S D lo ∧ Fr (fun _ => False) w wr)
      case atStart => exact ⟨0, D, rfl, by omega, by omega, hS, hD, hDl, Passed.start hR, hfr⟩
      case round =>
        clear hD hDl hfr hS
        obtain ⟨lo, D, rfl, rfl, hlo6, hS, hD, hDl, hP, hfr⟩ := hrel
        by_cases hlo : lo < zs.length
        · have hli : ((lo : Int) < (zs.length : Int)) := by omega
          go_upto_region 11 with fail
          go_cut [8] (fun s8 wc => ∃ mid : Nat, s8 = .int .i64 (mid : Int) ∧ wc = wr ∧ lo ≤ mid ∧ mid ≤ zs.length ∧ Hid (mid = min (lo + wd) zs.length))
          case first =>
            go_wp2_with fail
            all_goals (go_meet; case rel => exact ⟨min (lo + wd) zs.length, by congr 1; omega, rfl, by omega, by omega, rfl⟩)
          case rest =>
            obtain ⟨mid, rfl, hwc, hm1, hm2, hmid⟩ := hcut
            have hwc := hwc.symm
            subst hwc
            go_upto_region 12 with fail
            go_cut [9] (fun s9 wc => ∃ hi : Nat, s9 = .int .i64 (hi : Int) ∧ wc = wr ∧ mid ≤ hi ∧ hi ≤ zs.length ∧ Hid (hi = min (lo + 2 * wd) zs.length))
            case first =>
              go_wp2_with fail
              all_goals (go_meet; case rel => exact ⟨min (lo + 2 * wd) zs.length, by congr 1; omega, rfl, by have := hmid.out; omega, by omega, rfl⟩)
            case rest =>
              obtain ⟨hi, rfl, hwc, hh1, hh2, hhi⟩ := hcut
              have hwc := hwc.symm
              subst hwc
              go_wp2_with fail
              go_loopg [10, 11, 12] (hi - lo) (fun g s10 s11 s12 wr => ∃ (i j k : Nat) (E : List Int), s10 = .int .i64 (i : Int) ∧ s11 = .int .i64 (j : Int) ∧ s12 = .int .i64 (k : Int) ∧ g = hi - k ∧ IntRow wr sb S ∧ IntRow wr db E ∧ Merging S D E lo mid hi i j k ∧ Fr (fun _ => False) w wr)
              case atStart => exact ⟨lo, mid, lo, D, rfl, rfl, rfl, rfl, hS, hD, ⟨by omega, by omega, by omega, by omega, by omega, by omega, by omega, rfl⟩, hfr⟩
              case round =>
                clear hD hfr hS
                obtain ⟨i, j, k, E, rfl, rfl, rfl, rfl, hS, hE, hM, hfr⟩ := hrel
                have hM' := hM
                obtain ⟨m1, m2, m3, m4, m5, m6, m7, m8⟩ := hM'
                by_cases hk : k < hi
                · have hki : ((k : Int) < (hi : Int)) := by omega
                  have hkn : ((k : Int) < (zs.length : Int)) := by omega
                  have hk0 : (0 : Int) ≤ (k : Int) := by omega
                  have hi0 : (0 : Int) ≤ (i : Int) := by omega
                  have hj0 : (0 : Int) ≤ (j : Int) := by omega
                  obtain ⟨e, he⟩ : ∃ e, E[k]? = some e := ⟨E[k], List.getElem?_eq_getElem (by omega)⟩
                  have ce := hE.cell he
                  have fe := Blk.frozen hE k
                  by_cases hic : i < mid
                  · have hii : ((i : Int) < (mid : Int)) := by omega
                    have hin : ((i : Int) < (zs.length : Int)) := by omega
                    obtain ⟨x, hx⟩ : ∃ x, S[i]? = some x := ⟨S[i], List.getElem?_eq_getElem (by omega)⟩
                    have cx := hS.cell hx
                    by_cases hjc : j < hi
                    · have hjj : decide ((hi : Int) ≤ (j : Int)) = false := by simp; omega
                      have hjn : ((j : Int) < (zs.length : Int)) := by omega
                      obtain ⟨y, hy⟩ : ∃ y, S[j]? = some y := ⟨S[j], List.getElem?_eq_getElem (by omega)⟩
                      have cy := hS.cell hy
                      by_cases hxy : x ≤ y
                      · have hd : decide (x ≤ y) = true := by simpa using hxy
                        go_upto_region 18 with fail
                        go_quiet (fail)
                        go_wp2
                        go_roundg (hi - (k + 1))
                        case measure => omega
                        case rel => exact ⟨i + 1, j, k + 1, E.set k x, by go_num, rfl, by go_num, rfl, Blk.set_other hS (p := ⟨db, k, none⟩) hne _, hE.set k x, hM.left hx hic (Or.inr ⟨y, hy, hxy⟩), (Fr.setCell hfr (p := ⟨db, k, none⟩) (Or.inr hdb) _).drewN _⟩
                      · have hd : decide (x ≤ y) = false := by simpa using hxy
                        go_upto_region 18 with fail
                        go_quiet (fail)
                        go_wp2
                        go_roundg (hi - (k + 1))
                        case measure => omega
                        case rel => exact ⟨i, j + 1, k + 1, E.set k y, rfl, by go_num, by go_num, rfl, Blk.set_other hS (p := ⟨db, k, none⟩) hne _, hE.set k y, hM.right hy hjc (Or.inr ⟨x, hx, by omega⟩), (Fr.setCell hfr (p := ⟨db, k, none⟩) (Or.inr hdb) _).drewN _⟩
                    · have hjj : ((hi : Int) ≤ (j : Int)) := by omega
                      go_upto_region 18 with fail
                      go_quiet (fail)
                      go_wp2
                      go_roundg (hi - (k + 1))
                      case measure => omega
                      case rel => exact ⟨i + 1, j, k + 1, E.set k x, by go_num, rfl, by go_num, rfl, Blk.set_other hS (p := ⟨db, k, none⟩) hne _, hE.set k x, hM.left hx hic (Or.inl (by omega)), (Fr.setCell hfr (p := ⟨db, k, none⟩) (Or.inr hdb) _).drewN _⟩
                  · have hii : decide ((i : Int) < (mid : Int)) = false := by simp; omega
                    have hjc : j < hi := by omega
                    have hjn : ((j : Int) < (zs.length : Int)) := by omega
                    obtain ⟨y, hy⟩ : ∃ y, S[j]? = some y := ⟨S[j], List.getElem?_eq_getElem (by omega)⟩
                    have cy := hS.cell hy
                    go_upto_region 18 with fail
                    go_quiet (fail)
                    go_wp2
                    go_roundg (hi - (k + 1))
                    case measure => omega
                    case rel => exact ⟨i, j + 1, k + 1, E.set k y, rfl, by go_num, by go_num, rfl, Blk.set_other hS (p := ⟨db, k, none⟩) hne _, hE.set k y, hM.right hy hjc (Or.inl (by omega)), (Fr.setCell hfr (p := ⟨db, k, none⟩) (Or.inr hdb) _).drewN _⟩
                · have hki : ¬ ((k : Int) < (hi : Int)) := by omega
                  have he := hM.done (by omega)
                  have hP2 := hP.next (by omega) (by omega) (by rw [hSl]; exact hmid.out) (by rw [hSl]; exact hhi.out) he
                  go_wp2_with fail
                  go_roundg (zs.length - (lo + 2 * wd))
                  case measure => omega
                  case rel => exact ⟨lo + 2 * wd, E, by go_num, rfl, by omega, hS, hE, by omega, hP2, hfr⟩
        · have hli : ¬ ((lo : Int) < (zs.length : Int)) := by omega
          obtain ⟨hR2, hD2⟩ := hP.done (by omega) (by omega)
          go_wp2_with fail
          go_roundg (zs.length - 2 * wd)
          case measure => omega
          case rel => exact ⟨db, sb, 2 * wd, D, S, rfl, rfl, by go_num, rfl, by omega, by omega, hne.symm, hdb, hsb, hD, hS, hSl, hD2.trans hSp, hR2, hfr⟩
    · have hki : ¬ ((wd : Int) < (zs.length : Int)) := by omega
      go_wp2_with fail
      go_ret
      exact ⟨sb, rfl, hsb, S, hS, hSp, hR.sorted (by omega), hfr⟩
end Go.Proofs.Qxb6616573aFmt
