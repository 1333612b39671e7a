import Derived.Test.Qxb6616573aWalks
import Derived.Deep.RegionHeld3
import Derived.Deep.RegionWith
import Derived.Deep.DeepCutAuto
namespace Go.Proofs.Qxb6616573a
open Go.RowKit
theorem cell1 {w : World} {a : Addr} {v : Value} (h : w.cell? a = some v) (o : Obj) : (w.alloc o).cell? a = some v := by
  rw [World.cell?_alloc_some _ _ _ (by rw [h]; rfl)]; exact h
theorem cell3 {w : World} {a : Addr} {v : Value} (h : w.cell? a = some v) (o1 o2 o3 : Obj) : (((w.alloc o1).alloc o2).alloc o3).cell? a = some v :=
  cell1 (cell1 (cell1 h _) _) _
/-- the token t lies in block b -/
structure TokAt (b : Nat) (k : Int) (t : ByteArray) (w : World) : Prop where
  c0 : w.cell? ⟨b, 0, none⟩ = some (.int .u8 k)
  c1 : w.cell? ⟨b, 1, none⟩ = some (.string t)
  c2 : w.cell? ⟨b, 2, none⟩ = some (.int .i64 1)
  c3 : w.cell? ⟨b, 3, none⟩ = some (.int .i64 1)
  c4 : w.cell? ⟨b, 4, none⟩ = some (.string ⟨#[]⟩)
theorem TokAt.below {b : Nat} {k : Int} {t : ByteArray} {w w' : World} (h : TokAt b k t w) (hb : b < w.heap.size) (hw : Below w.heap.size w w') : TokAt b k t w' :=
  ⟨by rw [hw.cell (by exact hb)]; exact h.c0, by rw [hw.cell (by exact hb)]; exact h.c1, by rw [hw.cell (by exact hb)]; exact h.c2, by rw [hw.cell (by exact hb)]; exact h.c3, by rw [hw.cell (by exact hb)]; exact h.c4⟩
/-- what is carried from statement to statement -/
structure Kept (w : World) (tb : Nat) (k : Int) (t : ByteArray) (wc : World) : Prop where
  below : Below w.heap.size w wc
  lt : tb < wc.heap.size
  tok : TokAt tb k t wc
theorem Kept.on {w : World} {tb : Nat} {k : Int} {t : ByteArray} {W X w' : World} (h : Kept w tb k t W) (hX : Below W.heap.size W X) (h1 : Below X.heap.size X w') : Kept w tb k t w' :=
  have hb := btr hX h1
  ⟨btr h.below hb, Nat.lt_of_lt_of_le h.lt hb.size, h.tok.below h.lt hb⟩
theorem Kept.start (w : World) (cc : Array Value) (k : Int) (t : ByteArray) : Kept w (w.heap.size + 1) k t ((w.alloc (.cells cc 27)).alloc (.cells #[.int .u8 k, .string t, .int .i64 1, .int .i64 1, .string ⟨#[]⟩] 27)) :=
  ⟨bal (bal (Below.refl _ _) _) _, by simp, by constructor <;> go_simp⟩
set_option maxRecDepth 100000 in
set_option maxHeartbeats 1600000 in
theorem law_short (k0 k1 k2 : Int) (t0 t1 t2 : ByteArray) (h : t0.size + t1.size + t2.size ≤ 1048576) (w : World) :
    Calls Try.prog 3 #[.int .u8 k0, .string t0, .int .u8 k1, .string t1, .int .u8 k2, .string t2] w fun e w' => e = .returned (.bool true) ∧ Below w.heap.size w w' := by
  go_enter Try.func3, Try.ntmps3
  go_wp2_with (first | (go_at_call 4; refine (zzb_yes _ _ _ _ _ _ h _).mono ?_; rintro e w' ⟨rfl, he⟩; have he := he.symm; subst he) | (go_at_call 5; refine (newtok _ _ _).mono ?_; rintro e w' ⟨rfl, cc, rfl⟩))
  clear h he
  have hk := Kept.start w cc k0 t0
  generalize w.heap.size + 1 = tb at *
  generalize ((w.alloc (.cells cc 27)).alloc (.cells #[.int .u8 k0, .string t0, .int .i64 1, .int .i64 1, .string ⟨#[]⟩] 27)) = W at *
  go_cut [14] (fun s14 wc => s14 = .bool (isText k0 && isText k1) ∧ Kept w tb k0 t0 wc)
  case first =>
    have hz0 := hk.lt
    obtain ⟨q0, q1, q2, q3, q4⟩ := hk.tok
    have hz1 : tb < W.heap.size + 1 := by omega
    have hz2 : tb < W.heap.size + 1 + 1 := by omega
    have hz2' : tb < W.heap.size + 2 := by omega
    have hz3 : tb < W.heap.size + 1 + 1 + 1 := by omega
    have hz3' : tb < W.heap.size + 3 := by omega
    go_region_held3 (fun w' => w'.cell? ⟨tb, 0, none⟩ = some (.int .u8 k0) ∧ w'.cell? ⟨tb, 1, none⟩ = some (.string t0) ∧ w'.cell? ⟨tb, 2, none⟩ = some (.int .i64 1) ∧ w'.cell? ⟨tb, 3, none⟩ = some (.int .i64 1) ∧ w'.cell? ⟨tb, 4, none⟩ = some (.string ⟨#[]⟩)) (simp [*, World.cell?_alloc_some, cell3]) (first
      | (go_at_call 7; refine (toks1 k1 t1 _ _ _ ?_ ?_ ?_ ?_).mono ?_; go_simp; go_simp; go_simp; go_simp; rintro e w' ⟨rfl, nq, rfl⟩)
      | (go_at_call 6; go_must (refine (zzstarts1 k0 1 1 t0 ⟨#[]⟩ k1 1 1 t1 ⟨#[]⟩ _ _ ?_ ?_ ?_ ?_ ?_ ?_).mono ?_; go_simp; go_simp; go_simp; go_simp; go_simp; go_simp; rintro e w' ⟨rfl, hb1⟩; obtain ⟨hc, hf⟩ := bcell hb1)))
    all_goals
      go_wp2
      go_meet
      case rel => exact ⟨rfl, hk.on (by repeat (first | exact Below.refl _ _ | refine bal ?_ _ | refine bdr ?_ _ | refine Below.drew ?_)) hb1⟩
  case rest =>
    obtain ⟨rfl, hk⟩ := hcut
    rename_i W2
    go_wp2
    go_cut [15] (fun s15 wc => s15 = .bool (isText k0 && isText k1 && isDir k2 t2) ∧ Kept w tb k0 t0 wc)
    case first =>
      have hz0 := hk.lt
      obtain ⟨q0, q1, q2, q3, q4⟩ := hk.tok
      have hz1 : tb < wc.heap.size + 1 := by omega
      have hz2 : tb < wc.heap.size + 1 + 1 := by omega
      have hz2' : tb < wc.heap.size + 2 := by omega
      have hz3 : tb < wc.heap.size + 1 + 1 + 1 := by omega
      have hz3' : tb < wc.heap.size + 3 := by omega
      go_region_held3 (fun w' => w'.cell? ⟨tb, 0, none⟩ = some (.int .u8 k0) ∧ w'.cell? ⟨tb, 1, none⟩ = some (.string t0) ∧ w'.cell? ⟨tb, 2, none⟩ = some (.int .i64 1) ∧ w'.cell? ⟨tb, 3, none⟩ = some (.int .i64 1) ∧ w'.cell? ⟨tb, 4, none⟩ = some (.string ⟨#[]⟩)) (simp [*, World.cell?_alloc_some, cell3]) (first
        | (go_at_call 7; refine (toks2 k1 k2 t1 t2 _ _ _ ?_ ?_ ?_ ?_ ?_ ?_).mono ?_; go_simp; go_simp; go_simp; go_simp; go_simp; go_simp; rintro e w' ⟨rfl, nq, rfl⟩)
        | (go_at_call 6; go_must (refine (zzstarts2 k0 1 1 t0 ⟨#[]⟩ k1 1 1 k2 1 2 t1 ⟨#[]⟩ t2 ⟨#[]⟩ _ _ ?_ ?_ ?_ ?_ ?_ ?_ ?_ ?_ ?_ ?_ ?_).mono ?_; go_simp; go_simp; go_simp; go_simp; go_simp; go_simp; go_simp; go_simp; go_simp; go_simp; go_simp; rintro e w' ⟨rfl, hb1⟩; obtain ⟨hc, hf⟩ := bcell hb1)))
      all_goals
        go_wp2
        go_meet
        case rel => exact ⟨rfl, hk.on (by repeat (first | exact Below.refl _ _ | refine bal ?_ _ | refine bdr ?_ _ | refine Below.drew ?_)) hb1⟩
    case rest =>
      obtain ⟨rfl, hk⟩ := hcut
      go_wp2
      go_cut [16] (fun s16 wc => s16 = .bool false ∧ Kept w tb k0 t0 wc)
      case first =>
        have hz0 := hk.lt
        obtain ⟨q0, q1, q2, q3, q4⟩ := hk.tok
        have hz1 : tb < wc.heap.size + 1 := by omega
        have hz2 : tb < wc.heap.size + 1 + 1 := by omega
        have hz2' : tb < wc.heap.size + 2 := by omega
        have hz3 : tb < wc.heap.size + 1 + 1 + 1 := by omega
        have hz3' : tb < wc.heap.size + 3 := by omega
        go_region_held3 (fun w' => w'.cell? ⟨tb, 0, none⟩ = some (.int .u8 k0) ∧ w'.cell? ⟨tb, 1, none⟩ = some (.string t0) ∧ w'.cell? ⟨tb, 2, none⟩ = some (.int .i64 1) ∧ w'.cell? ⟨tb, 3, none⟩ = some (.int .i64 1) ∧ w'.cell? ⟨tb, 4, none⟩ = some (.string ⟨#[]⟩)) (simp [*, World.cell?_alloc_some, cell3]) (first
          | (go_at_call 7; refine (toks3 k1 k2 k2 t1 t2 t2 _ _ _ ?_ ?_ ?_ ?_ ?_ ?_ ?_ ?_).mono ?_; go_simp; go_simp; go_simp; go_simp; go_simp; go_simp; go_simp; go_simp; rintro e w' ⟨rfl, nq, rfl⟩)
          | (go_at_call 6; go_must (refine (zzstarts3 k0 1 1 t0 ⟨#[]⟩ k1 1 1 t1 ⟨#[]⟩ _ _ ?_ ?_ ?_ ?_ ?_ ?_).mono ?_; go_simp; go_simp; go_simp; go_simp; go_simp; go_simp; rintro e w' ⟨rfl, hb1⟩; obtain ⟨hc, hf⟩ := bcell hb1)))
        all_goals
          go_wp2
          go_meet
          case rel => exact ⟨rfl, hk.on (by repeat (first | exact Below.refl _ _ | refine bal ?_ _ | refine bdr ?_ _ | refine Below.drew ?_)) hb1⟩
      case rest =>
        obtain ⟨rfl, hk⟩ := hcut
        obtain ⟨q0, q1, q2, q3, q4⟩ := hk.tok
        go_wp2_with fail
        refine (zzstarts0 k0 1 1 t0 ⟨#[]⟩ _).mono ?_
        rintro e w' ⟨rfl, hb1⟩
        have hb : Below w.heap.size w w' := btr hk.below hb1
        clear hb1 hk q0 q1 q2 q3 q4
        go_upto_region 12 with fail
        go_cut [18] (fun s18 wd => s18 = .bool (isDir k2 t2) ∧ wd = w')
        case first =>
          cases hx : (k2 == 1)
          all_goals
            go_wp2
            go_meet
            case rel => exact ⟨by simp [isDir, attrs, hx], rfl⟩
        case rest =>
          obtain ⟨rfl, rfl⟩ := hcut
          cases h0 : isText k0
          case false =>
            go_wp2_with (go_at_call 8; refine (istextkind _ _).mono ?_; rintro e w' ⟨rfl, rfl⟩)
            go_ret
            exact ⟨rfl, hb⟩
          case true =>
            cases h1 : isText k1
            case false =>
              go_wp2_with (go_at_call 8; refine (istextkind _ _).mono ?_; rintro e w' ⟨rfl, rfl⟩)
              go_ret
              exact ⟨rfl, hb⟩
            case true =>
              cases h2 : isDir k2 t2
              all_goals
                go_wp2_with (go_at_call 8; refine (istextkind _ _).mono ?_; rintro e w' ⟨rfl, rfl⟩)
                go_ret
                exact ⟨rfl, hb⟩
end Go.Proofs.Qxb6616573a
