import Derived.Test.Qxb6616573aRows
import Derived.WalkKit
import Derived.WalkSpells
import Derived.WalkLawsBesides
import Derived.Deep.QuietTactic
import Derived.BigQuiet
import Derived.RegionTactic
import Derived.ChangeAlike
import Derived.LoopN
namespace Go.Proofs.Qxb6616573a
open Go.RowKit
theorem bal {a w : World} (h : Below a.heap.size a w) (o : Obj) : Below a.heap.size a (w.alloc o) := h.alloc h.size o
theorem btr {a b c : World} (h : Below a.heap.size a b) (k : Below b.heap.size b c) : Below a.heap.size a c := h.trans (k.mono h.size)
theorem bdr {a b : World} (h : Below a.heap.size a b) (n : Nat) : Below a.heap.size a (b.drewN n) := ⟨h.os, h.tape, h.output, h.size, h.block⟩
theorem bcell {W w1 : World} (hb : Below W.heap.size W w1) : (∀ b o, b < W.heap.size → w1.cell? ⟨b, o, none⟩ = W.cell? ⟨b, o, none⟩) ∧ (∀ b o, b < W.heap.size → w1.frozen? ⟨b, o, none⟩ = W.frozen? ⟨b, o, none⟩) :=
  ⟨fun b o h => hb.cell (p := ⟨b, o, none⟩) h, fun b o h => hb.frozen (p := ⟨b, o, none⟩) h⟩
theorem ret_bool {a b : Bool} (h : a = b) : Ending.returned (.bool a) = .returned (.bool b) := by rw [h]
def isText (k : Int) : Bool := k == 0 || k == 5 || k == 2
def attrs : List UInt8 := [46, 97, 116, 116, 114, 105, 98, 117, 116, 101, 115]
def isDir (k : Int) (t : ByteArray) : Bool := k == 1 && t.toList == attrs

set_option maxHeartbeats 400000 in
theorem newtok (k : Int) (t : ByteArray) (w : World) :
    Calls Try.prog 5 #[.int .u8 k, .string t] w fun e w' =>
      e = .returned (.agg #[.int .u8 k, .string t, .int .i64 1, .int .i64 1, .string ⟨#[]⟩]) ∧ ∃ c : Array Value, w' = w.alloc (.cells c 27) := by
  go_enter Try.func5, Try.ntmps5
  go_wp2
  exact bodyPost_ret (v := .agg #[.int .u8 k, .string t, .int .i64 1, .int .i64 1, .string ⟨#[]⟩]) (by simp [results, Try.results5, go_sem]) rfl ⟨rfl, _, rfl⟩

set_option maxHeartbeats 400000 in
theorem istextkind (k : Int) (w : World) :
    Calls Try.prog 8 #[.int .u8 k] w fun e w' => e = .returned (.bool (isText k)) ∧ w' = w := by
  go_enter Try.func8, Try.ntmps8
  go_wp2
  all_goals (go_ret; exact ⟨ret_bool (by simp [isText, *]), rfl⟩)

set_option maxHeartbeats 400000 in
theorem writes (k : Int) (t v : ByteArray) (l c : Int) (w : World) :
    Calls Try.prog 10 #[.agg #[.int .u8 k, .string t, .int .i64 l, .int .i64 c, .string v]] w fun e w' => e = .returned (.bool (isText k)) ∧ ∃ c : Array Value, w' = w.alloc (.cells c 27) := by
  go_enter Try.func10, Try.ntmps10
  go_wp2
  all_goals (go_ret; exact ⟨ret_bool (by simp [isText, *]), _, rfl⟩)

theorem attrs_list : (⟨#[46, 97, 116, 116, 114, 105, 98, 117, 116, 101, 115]⟩ : ByteArray).toList = attrs := by decide +kernel
set_option maxHeartbeats 400000 in
theorem isdir (k : Int) (t v : ByteArray) (l c : Int) (w : World) :
    Calls Try.prog 11 #[.agg #[.int .u8 k, .string t, .int .i64 l, .int .i64 c, .string v], .string ⟨#[46, 97, 116, 116, 114, 105, 98, 117, 116, 101, 115]⟩] w fun e w' => e = .returned (.bool (isDir k t)) ∧ ∃ c : Array Value, w' = w.alloc (.cells c 27) := by
  generalize hs : (⟨#[46, 97, 116, 116, 114, 105, 98, 117, 116, 101, 115]⟩ : ByteArray) = s
  have hl : s.toList = attrs := by rw [← hs]; exact attrs_list
  clear hs
  go_enter Try.func11, Try.ntmps11
  go_wp2
  all_goals (go_ret; exact ⟨ret_bool (by simp [isDir, *]), _, rfl⟩)
set_option maxHeartbeats 800000 in
theorem starts0 (k l c : Int) (t v : ByteArray) (w : World)  :
    Calls Try.prog 9 #[.agg #[.int .u8 k, .string t, .int .i64 l, .int .i64 c, .string v], .slice none 0 0] w fun e w' =>
      e = .returned (.bool (false)) ∧ Below w.heap.size w w' := by
  cases hk : isText k
  case false =>
    go_enter Try.func9, Try.ntmps9
    go_wp2_with (first | (go_at_call 10; refine (writes _ _ _ _ _ _).mono ?_; rintro e w' ⟨rfl, _, rfl⟩) | (go_at_call 11; refine (isdir _ _ _ _ _ _).mono ?_; rintro e w' ⟨rfl, _, rfl⟩))
    go_ret
    exact ⟨ret_bool (by simp [*]), by repeat (first | exact Below.refl _ _ | refine bal ?_ _)⟩
  case true =>
    go_enter Try.func9, Try.ntmps9
    go_wp2_with (first | (go_at_call 10; refine (writes _ _ _ _ _ _).mono ?_; rintro e w' ⟨rfl, _, rfl⟩) | (go_at_call 11; refine (isdir _ _ _ _ _ _).mono ?_; rintro e w' ⟨rfl, _, rfl⟩))
    go_ret
    exact ⟨ret_bool (by simp [*]), by repeat (first | exact Below.refl _ _ | refine bal ?_ _)⟩

set_option maxHeartbeats 800000 in
theorem zzstarts0 (k l c : Int) (t v : ByteArray) (w : World)  :
    Calls Try.prog 6 #[.agg #[.int .u8 k, .string t, .int .i64 l, .int .i64 c, .string v], .slice none 0 0] w fun e w' =>
      e = .returned (.bool (false)) ∧ Below w.heap.size w w' := by
  go_enter Try.func6, Try.ntmps6
  go_wp2_with fail
  refine (starts0 _ _ _ _ _ _ ).mono ?_
  rintro e w' ⟨rfl, hb1⟩
  go_wp2
  go_ret
  exact ⟨rfl, btr (bal (Below.refl _ _) _) hb1⟩

set_option maxHeartbeats 800000 in
theorem starts1 (k l c : Int) (t v : ByteArray) (k0 l0 c0 : Int) (t0 v0 : ByteArray) (b : Nat) (w : World) (hb : b < w.heap.size) (h00 : w.cell? ⟨b, 0, none⟩ = some (.int .u8 k0)) (h01 : w.cell? ⟨b, 1, none⟩ = some (.string t0)) (h02 : w.cell? ⟨b, 2, none⟩ = some (.int .i64 l0)) (h03 : w.cell? ⟨b, 3, none⟩ = some (.int .i64 c0)) (h04 : w.cell? ⟨b, 4, none⟩ = some (.string v0)) :
    Calls Try.prog 9 #[.agg #[.int .u8 k, .string t, .int .i64 l, .int .i64 c, .string v], .slice (some ⟨b, 0, none⟩) 1 1] w fun e w' =>
      e = .returned (.bool (isText k && isText k0)) ∧ Below w.heap.size w w' := by
  cases hk : isText k
  case false =>
    go_enter Try.func9, Try.ntmps9
    go_wp2_with (first | (go_at_call 10; refine (writes _ _ _ _ _ _).mono ?_; rintro e w' ⟨rfl, _, rfl⟩) | (go_at_call 11; refine (isdir _ _ _ _ _ _).mono ?_; rintro e w' ⟨rfl, _, rfl⟩))
    go_ret
    exact ⟨ret_bool (by simp [*]), by repeat (first | exact Below.refl _ _ | refine bal ?_ _)⟩
  case true =>
    cases hk0 : isText k0
    case false =>
      go_enter Try.func9, Try.ntmps9
      go_wp2_with (first | (go_at_call 10; refine (writes _ _ _ _ _ _).mono ?_; rintro e w' ⟨rfl, _, rfl⟩) | (go_at_call 11; refine (isdir _ _ _ _ _ _).mono ?_; rintro e w' ⟨rfl, _, rfl⟩))
      go_ret
      exact ⟨ret_bool (by simp [*]), by repeat (first | exact Below.refl _ _ | refine bal ?_ _)⟩
    case true =>
      go_enter Try.func9, Try.ntmps9
      go_wp2_with (first | (go_at_call 10; refine (writes _ _ _ _ _ _).mono ?_; rintro e w' ⟨rfl, _, rfl⟩) | (go_at_call 11; refine (isdir _ _ _ _ _ _).mono ?_; rintro e w' ⟨rfl, _, rfl⟩))
      go_ret
      exact ⟨ret_bool (by simp [*]), by repeat (first | exact Below.refl _ _ | refine bal ?_ _)⟩

set_option maxHeartbeats 800000 in
theorem zzstarts1 (k l c : Int) (t v : ByteArray) (k0 l0 c0 : Int) (t0 v0 : ByteArray) (b : Nat) (w : World) (hb : b < w.heap.size) (h00 : w.cell? ⟨b, 0, none⟩ = some (.int .u8 k0)) (h01 : w.cell? ⟨b, 1, none⟩ = some (.string t0)) (h02 : w.cell? ⟨b, 2, none⟩ = some (.int .i64 l0)) (h03 : w.cell? ⟨b, 3, none⟩ = some (.int .i64 c0)) (h04 : w.cell? ⟨b, 4, none⟩ = some (.string v0)) :
    Calls Try.prog 6 #[.agg #[.int .u8 k, .string t, .int .i64 l, .int .i64 c, .string v], .slice (some ⟨b, 0, none⟩) 1 1] w fun e w' =>
      e = .returned (.bool (isText k && isText k0)) ∧ Below w.heap.size w w' := by
  go_enter Try.func6, Try.ntmps6
  go_wp2_with fail
  refine (starts1 _ _ _ _ _ k0 l0 c0 t0 v0 b _ (by simp; omega) (by go_simp) (by go_simp) (by go_simp) (by go_simp) (by go_simp)).mono ?_
  rintro e w' ⟨rfl, hb1⟩
  go_wp2
  go_ret
  exact ⟨rfl, btr (bal (Below.refl _ _) _) hb1⟩

set_option maxHeartbeats 800000 in
theorem starts2 (k l c : Int) (t v : ByteArray) (k0 l0 c0 k1 l1 c1 : Int) (t0 v0 t1 v1 : ByteArray) (b : Nat) (w : World) (hb : b < w.heap.size) (h00 : w.cell? ⟨b, 0, none⟩ = some (.int .u8 k0)) (h01 : w.cell? ⟨b, 1, none⟩ = some (.string t0)) (h02 : w.cell? ⟨b, 2, none⟩ = some (.int .i64 l0)) (h03 : w.cell? ⟨b, 3, none⟩ = some (.int .i64 c0)) (h04 : w.cell? ⟨b, 4, none⟩ = some (.string v0)) (h10 : w.cell? ⟨b, 5, none⟩ = some (.int .u8 k1)) (h11 : w.cell? ⟨b, 6, none⟩ = some (.string t1)) (h12 : w.cell? ⟨b, 7, none⟩ = some (.int .i64 l1)) (h13 : w.cell? ⟨b, 8, none⟩ = some (.int .i64 c1)) (h14 : w.cell? ⟨b, 9, none⟩ = some (.string v1)) :
    Calls Try.prog 9 #[.agg #[.int .u8 k, .string t, .int .i64 l, .int .i64 c, .string v], .slice (some ⟨b, 0, none⟩) 2 2] w fun e w' =>
      e = .returned (.bool (isText k && isText k0 && isDir k1 t1)) ∧ Below w.heap.size w w' := by
  have hb1 : b < w.heap.size + 1 := by omega
  have hb2 : b < w.heap.size + 1 + 1 := by omega
  have hb3 : b < w.heap.size + 2 := by omega
  cases hk : isText k
  case false =>
    go_enter Try.func9, Try.ntmps9
    go_wp2_with (first | (go_at_call 10; refine (writes _ _ _ _ _ _).mono ?_; rintro e w' ⟨rfl, _, rfl⟩) | (go_at_call 11; refine (isdir _ _ _ _ _ _).mono ?_; rintro e w' ⟨rfl, _, rfl⟩))
    go_ret
    exact ⟨ret_bool (by simp [*]), by repeat (first | exact Below.refl _ _ | refine bal ?_ _)⟩
  case true =>
    cases hk0 : isText k0
    case false =>
      go_enter Try.func9, Try.ntmps9
      go_wp2_with (first | (go_at_call 10; refine (writes _ _ _ _ _ _).mono ?_; rintro e w' ⟨rfl, _, rfl⟩) | (go_at_call 11; refine (isdir _ _ _ _ _ _).mono ?_; rintro e w' ⟨rfl, _, rfl⟩))
      go_ret
      exact ⟨ret_bool (by simp [*]), by repeat (first | exact Below.refl _ _ | refine bal ?_ _)⟩
    case true =>
      cases hk1 : isDir k1 t1
      case false =>
        go_enter Try.func9, Try.ntmps9
        go_wp2_with (first | (go_at_call 10; refine (writes _ _ _ _ _ _).mono ?_; rintro e w' ⟨rfl, _, rfl⟩) | (go_at_call 11; refine (isdir _ _ _ _ _ _).mono ?_; rintro e w' ⟨rfl, _, rfl⟩))
        go_ret
        exact ⟨ret_bool (by simp [*]), by repeat (first | exact Below.refl _ _ | refine bal ?_ _)⟩
      case true =>
        go_enter Try.func9, Try.ntmps9
        go_wp2_with (first | (go_at_call 10; refine (writes _ _ _ _ _ _).mono ?_; rintro e w' ⟨rfl, _, rfl⟩) | (go_at_call 11; refine (isdir _ _ _ _ _ _).mono ?_; rintro e w' ⟨rfl, _, rfl⟩))
        go_ret
        exact ⟨ret_bool (by simp [*]), by repeat (first | exact Below.refl _ _ | refine bal ?_ _)⟩

set_option maxHeartbeats 800000 in
theorem zzstarts2 (k l c : Int) (t v : ByteArray) (k0 l0 c0 k1 l1 c1 : Int) (t0 v0 t1 v1 : ByteArray) (b : Nat) (w : World) (hb : b < w.heap.size) (h00 : w.cell? ⟨b, 0, none⟩ = some (.int .u8 k0)) (h01 : w.cell? ⟨b, 1, none⟩ = some (.string t0)) (h02 : w.cell? ⟨b, 2, none⟩ = some (.int .i64 l0)) (h03 : w.cell? ⟨b, 3, none⟩ = some (.int .i64 c0)) (h04 : w.cell? ⟨b, 4, none⟩ = some (.string v0)) (h10 : w.cell? ⟨b, 5, none⟩ = some (.int .u8 k1)) (h11 : w.cell? ⟨b, 6, none⟩ = some (.string t1)) (h12 : w.cell? ⟨b, 7, none⟩ = some (.int .i64 l1)) (h13 : w.cell? ⟨b, 8, none⟩ = some (.int .i64 c1)) (h14 : w.cell? ⟨b, 9, none⟩ = some (.string v1)) :
    Calls Try.prog 6 #[.agg #[.int .u8 k, .string t, .int .i64 l, .int .i64 c, .string v], .slice (some ⟨b, 0, none⟩) 2 2] w fun e w' =>
      e = .returned (.bool (isText k && isText k0 && isDir k1 t1)) ∧ Below w.heap.size w w' := by
  go_enter Try.func6, Try.ntmps6
  go_wp2_with fail
  refine (starts2 _ _ _ _ _ k0 l0 c0 k1 l1 c1 t0 v0 t1 v1 b _ (by simp; omega) (by go_simp) (by go_simp) (by go_simp) (by go_simp) (by go_simp) (by go_simp) (by go_simp) (by go_simp) (by go_simp) (by go_simp)).mono ?_
  rintro e w' ⟨rfl, hb1⟩
  go_wp2
  go_ret
  exact ⟨rfl, btr (bal (Below.refl _ _) _) hb1⟩

set_option maxHeartbeats 800000 in
theorem starts3 (k l c : Int) (t v : ByteArray) (k0 l0 c0 : Int) (t0 v0 : ByteArray) (b : Nat) (w : World) (hb : b < w.heap.size) (h00 : w.cell? ⟨b, 0, none⟩ = some (.int .u8 k0)) (h01 : w.cell? ⟨b, 1, none⟩ = some (.string t0)) (h02 : w.cell? ⟨b, 2, none⟩ = some (.int .i64 l0)) (h03 : w.cell? ⟨b, 3, none⟩ = some (.int .i64 c0)) (h04 : w.cell? ⟨b, 4, none⟩ = some (.string v0)) :
    Calls Try.prog 9 #[.agg #[.int .u8 k, .string t, .int .i64 l, .int .i64 c, .string v], .slice (some ⟨b, 0, none⟩) 3 3] w fun e w' =>
      e = .returned (.bool (false)) ∧ Below w.heap.size w w' := by
  cases hk : isText k
  case false =>
    go_enter Try.func9, Try.ntmps9
    go_wp2_with (first | (go_at_call 10; refine (writes _ _ _ _ _ _).mono ?_; rintro e w' ⟨rfl, _, rfl⟩) | (go_at_call 11; refine (isdir _ _ _ _ _ _).mono ?_; rintro e w' ⟨rfl, _, rfl⟩))
    go_ret
    exact ⟨ret_bool (by simp [*]), by repeat (first | exact Below.refl _ _ | refine bal ?_ _)⟩
  case true =>
    cases hk0 : isText k0
    case false =>
      go_enter Try.func9, Try.ntmps9
      go_wp2_with (first | (go_at_call 10; refine (writes _ _ _ _ _ _).mono ?_; rintro e w' ⟨rfl, _, rfl⟩) | (go_at_call 11; refine (isdir _ _ _ _ _ _).mono ?_; rintro e w' ⟨rfl, _, rfl⟩))
      go_ret
      exact ⟨ret_bool (by simp [*]), by repeat (first | exact Below.refl _ _ | refine bal ?_ _)⟩
    case true =>
      go_enter Try.func9, Try.ntmps9
      go_wp2_with (first | (go_at_call 10; refine (writes _ _ _ _ _ _).mono ?_; rintro e w' ⟨rfl, _, rfl⟩) | (go_at_call 11; refine (isdir _ _ _ _ _ _).mono ?_; rintro e w' ⟨rfl, _, rfl⟩))
      go_ret
      exact ⟨ret_bool (by simp [*]), by repeat (first | exact Below.refl _ _ | refine bal ?_ _)⟩

set_option maxHeartbeats 800000 in
theorem zzstarts3 (k l c : Int) (t v : ByteArray) (k0 l0 c0 : Int) (t0 v0 : ByteArray) (b : Nat) (w : World) (hb : b < w.heap.size) (h00 : w.cell? ⟨b, 0, none⟩ = some (.int .u8 k0)) (h01 : w.cell? ⟨b, 1, none⟩ = some (.string t0)) (h02 : w.cell? ⟨b, 2, none⟩ = some (.int .i64 l0)) (h03 : w.cell? ⟨b, 3, none⟩ = some (.int .i64 c0)) (h04 : w.cell? ⟨b, 4, none⟩ = some (.string v0)) :
    Calls Try.prog 6 #[.agg #[.int .u8 k, .string t, .int .i64 l, .int .i64 c, .string v], .slice (some ⟨b, 0, none⟩) 3 3] w fun e w' =>
      e = .returned (.bool (false)) ∧ Below w.heap.size w w' := by
  go_enter Try.func6, Try.ntmps6
  go_wp2_with fail
  refine (starts3 _ _ _ _ _ k0 l0 c0 t0 v0 b _ (by simp; omega) (by go_simp) (by go_simp) (by go_simp) (by go_simp) (by go_simp)).mono ?_
  rintro e w' ⟨rfl, hb1⟩
  go_wp2
  go_ret
  exact ⟨rfl, btr (bal (Below.refl _ _) _) hb1⟩
set_option maxHeartbeats 800000 in
theorem toks1 (k0 : Int) (t0 : ByteArray) (b1 b2 : Nat) (w : World) (h10 : w.cell? ⟨b1, 0, none⟩ = some (.int .u8 k0)) (h20 : w.cell? ⟨b2, 0, none⟩ = some (.string t0)) (hb1 : b1 < w.heap.size) (hb2 : b2 < w.heap.size) :
    Calls Try.prog 7 #[.slice (some ⟨b1, 0, none⟩) 1 1, .slice (some ⟨b2, 0, none⟩) 1 1] w fun e w' =>
      e = .returned (.slice (some ⟨w.heap.size, 0, none⟩) 1 1) ∧ ∃ nq, w' = (w.alloc (.cells #[.int .u8 k0, .string t0, .int .i64 1, .int .i64 1, .string ⟨#[]⟩] 27)).drewN nq := by
  have hmk : ∀ w, (Instr.makeSlice 30 (.int .i64 1) (.int .i64 1)).run Try.prog w = .ok (.slice (some ⟨w.heap.size, 0, none⟩) 1 1) (w.alloc (.cells #[.int .u8 0, .string ⟨#[]⟩, .int .i64 0, .int .i64 0, .string ⟨#[]⟩] 27)) := fun _ => by kernel_rfl
  go_enter Try.func7, Try.ntmps7
  go_wp2
  refine wp_loop_rounds 2 ?_
  rw [rounds_succ]; go_wp2; go_region; go_wp2
  rw [rounds_succ]; go_wp2
  go_ret
  exact ⟨rfl, 1, rfl⟩

set_option maxHeartbeats 800000 in
theorem toks2 (k0 k1 : Int) (t0 t1 : ByteArray) (b1 b2 : Nat) (w : World) (h10 : w.cell? ⟨b1, 0, none⟩ = some (.int .u8 k0)) (h11 : w.cell? ⟨b1, 1, none⟩ = some (.int .u8 k1)) (h20 : w.cell? ⟨b2, 0, none⟩ = some (.string t0)) (h21 : w.cell? ⟨b2, 1, none⟩ = some (.string t1)) (hb1 : b1 < w.heap.size) (hb2 : b2 < w.heap.size) :
    Calls Try.prog 7 #[.slice (some ⟨b1, 0, none⟩) 2 2, .slice (some ⟨b2, 0, none⟩) 2 2] w fun e w' =>
      e = .returned (.slice (some ⟨w.heap.size, 0, none⟩) 2 2) ∧ ∃ nq, w' = (w.alloc (.cells #[.int .u8 k0, .string t0, .int .i64 1, .int .i64 1, .string ⟨#[]⟩, .int .u8 k1, .string t1, .int .i64 1, .int .i64 2, .string ⟨#[]⟩] 27)).drewN nq := by
  have hmk : ∀ w, (Instr.makeSlice 30 (.int .i64 2) (.int .i64 2)).run Try.prog w = .ok (.slice (some ⟨w.heap.size, 0, none⟩) 2 2) (w.alloc (.cells #[.int .u8 0, .string ⟨#[]⟩, .int .i64 0, .int .i64 0, .string ⟨#[]⟩, .int .u8 0, .string ⟨#[]⟩, .int .i64 0, .int .i64 0, .string ⟨#[]⟩] 27)) := fun _ => by kernel_rfl
  go_enter Try.func7, Try.ntmps7
  go_wp2
  refine wp_loop_rounds 3 ?_
  rw [rounds_succ]; go_wp2; go_region; go_wp2
  rw [rounds_succ]; go_wp2; go_region; go_wp2
  rw [rounds_succ]; go_wp2
  go_ret
  exact ⟨rfl, 2, rfl⟩

set_option maxHeartbeats 800000 in
theorem toks3 (k0 k1 k2 : Int) (t0 t1 t2 : ByteArray) (b1 b2 : Nat) (w : World) (h10 : w.cell? ⟨b1, 0, none⟩ = some (.int .u8 k0)) (h11 : w.cell? ⟨b1, 1, none⟩ = some (.int .u8 k1)) (h12 : w.cell? ⟨b1, 2, none⟩ = some (.int .u8 k2)) (h20 : w.cell? ⟨b2, 0, none⟩ = some (.string t0)) (h21 : w.cell? ⟨b2, 1, none⟩ = some (.string t1)) (h22 : w.cell? ⟨b2, 2, none⟩ = some (.string t2)) (hb1 : b1 < w.heap.size) (hb2 : b2 < w.heap.size) :
    Calls Try.prog 7 #[.slice (some ⟨b1, 0, none⟩) 3 3, .slice (some ⟨b2, 0, none⟩) 3 3] w fun e w' =>
      e = .returned (.slice (some ⟨w.heap.size, 0, none⟩) 3 3) ∧ ∃ nq, w' = (w.alloc (.cells #[.int .u8 k0, .string t0, .int .i64 1, .int .i64 1, .string ⟨#[]⟩, .int .u8 k1, .string t1, .int .i64 1, .int .i64 2, .string ⟨#[]⟩, .int .u8 k2, .string t2, .int .i64 1, .int .i64 3, .string ⟨#[]⟩] 27)).drewN nq := by
  have hmk : ∀ w, (Instr.makeSlice 30 (.int .i64 3) (.int .i64 3)).run Try.prog w = .ok (.slice (some ⟨w.heap.size, 0, none⟩) 3 3) (w.alloc (.cells #[.int .u8 0, .string ⟨#[]⟩, .int .i64 0, .int .i64 0, .string ⟨#[]⟩, .int .u8 0, .string ⟨#[]⟩, .int .i64 0, .int .i64 0, .string ⟨#[]⟩, .int .u8 0, .string ⟨#[]⟩, .int .i64 0, .int .i64 0, .string ⟨#[]⟩] 27)) := fun _ => by kernel_rfl
  go_enter Try.func7, Try.ntmps7
  go_wp2
  refine wp_loop_rounds 4 ?_
  rw [rounds_succ]; go_wp2; go_region; go_wp2
  rw [rounds_succ]; go_wp2; go_region; go_wp2
  rw [rounds_succ]; go_wp2; go_region; go_wp2
  rw [rounds_succ]; go_wp2
  go_ret
  exact ⟨rfl, 3, rfl⟩

set_option maxHeartbeats 800000 in
theorem zzb_yes (k0 k1 k2 : Int) (t0 t1 t2 : ByteArray) (h : t0.size + t1.size + t2.size ≤ 1048576) (w : World) :
    Calls Try.prog 4 #[.int .u8 k0, .string t0, .int .u8 k1, .string t1, .int .u8 k2, .string t2] w fun e w' => e = .returned (.bool true) ∧ w' = w := by
  go_enter Try.func4, Try.ntmps4
  go_wp2
  go_ret
  exact ⟨rfl, rfl⟩
set_option maxHeartbeats 800000 in
theorem zzb_no (k0 k1 k2 : Int) (t0 t1 t2 : ByteArray) (h : 1048576 < t0.size + t1.size + t2.size) (w0 : t0.size ≤ maxLen) (w1 : t1.size ≤ maxLen) (w2 : t2.size ≤ maxLen) (w : World) :
    Calls Try.prog 4 #[.int .u8 k0, .string t0, .int .u8 k1, .string t1, .int .u8 k2, .string t2] w fun e w' => e = .returned (.bool false) ∧ w' = w := by
  unfold maxLen at w0 w1 w2
  go_enter Try.func4, Try.ntmps4
  go_wp2
  all_goals (go_ret; exact ⟨rfl, rfl⟩)
set_option maxHeartbeats 800000 in
theorem law_long (k0 k1 k2 : Int) (t0 t1 t2 : ByteArray) (h : 1048576 < t0.size + t1.size + t2.size) (w0 : t0.size ≤ maxLen) (w1 : t1.size ≤ maxLen) (w2 : t2.size ≤ maxLen) (w : World) :
    Calls Try.prog 3 #[.int .u8 k0, .string t0, .int .u8 k1, .string t1, .int .u8 k2, .string t2] w fun e w' => e = .returned (.bool true) ∧ w' = w := by
  go_enter Try.func3, Try.ntmps3
  go_wp2_with (go_at_call 4; refine (zzb_no _ _ _ _ _ _ h w0 w1 w2 _).mono ?_; rintro e w' ⟨rfl, rfl⟩)
  go_ret
  exact ⟨rfl, rfl⟩
end Go.Proofs.Qxb6616573a
