import Derived.Test.Qxb6617106aRows
import Derived.WalkKit
import Derived.WalkSpells
import Derived.WalkLawsBesides
import Derived.RegionTactic
import Derived.BigRegion
import Derived.ChangeAlike
import Derived.LoopN
namespace Go.Proofs.Qxb6617106a
open Go.RowKit
theorem prod_bd (h n : Int) (h0 : 0 ≤ h) (h1 : h < 4294967296) (n0 : 0 ≤ n) (n1 : n ≤ 4294967296) : 0 ≤ h * n ∧ h * n ≤ 4294967295 * 4294967296 :=
  ⟨Int.mul_nonneg h0 n0, Int.le_trans (Int.mul_le_mul_of_nonneg_right (show h ≤ 4294967295 by omega) n0) (Int.mul_le_mul_of_nonneg_left n1 (by omega))⟩
theorem wrap_prod (h n : Int) (h0 : 0 ≤ h) (h1 : h < 4294967296) (n0 : 0 ≤ n) (n1 : n ≤ 4294967296) : IntKind.u64.wrap (h * n) = h * n := by
  have := prod_bd h n h0 h1 n0 n1
  generalize h * n = x at *
  unfold IntKind.wrap
  simp [IntKind.bits, IntKind.signed]
  omega
theorem quot_bd (h n : Int) (h0 : 0 ≤ h) (h1 : h < 4294967296) (n0 : 0 ≤ n) (n1 : n ≤ 4294967296) : 0 ≤ h * n / 4294967296 ∧ h * n / 4294967296 ≤ 4294967296 := by
  have := prod_bd h n h0 h1 n0 n1
  generalize h * n = x at *
  omega
set_option maxHeartbeats 800000 in
theorem locate (h n : Int) (h0 : 0 ≤ h) (h1 : h < 4294967296) (n0 : 0 ≤ n) (n1 : n ≤ 4294967296) (w : World) :
    Calls Try.prog 5 #[.int .u32 h, .int .i64 n] w fun e w' =>
      (∃ u0 u1 u2 u3 u4 u5 u6 : Int, e = .returned (.tuple #[.int .i64 (h * n / 4294967296), .agg #[.int .u64 u0, .int .u64 u1, .int .u64 u2, .int .u64 u3, .int .u64 u4, .int .u64 u5, .int .u64 u6]])) ∧ Below w.heap.size w w' := by
  have hw := wrap_prod h n h0 h1 n0 n1
  obtain ⟨q0, q1⟩ := quot_bd h n h0 h1 n0 n1
  go_enter Try.func5, Try.ntmps5
  go_wp2
  generalize IntKind.u64.wrap (h * 11400714819323198485) = p
  refine wp_loop_rounds 8 ?_
  rw [rounds_succ]; go_wp2
  rw [rounds_succ]; go_wp2
  rw [rounds_succ]; go_wp2
  rw [rounds_succ]; go_wp2
  rw [rounds_succ]; go_wp2
  rw [rounds_succ]; go_wp2
  rw [rounds_succ]; go_wp2
  rw [rounds_succ]; go_wp2
  go_region
  go_wp2
  exact bodyPost_ret (v := .tuple #[.int .i64 (h * n / 4294967296), .agg #[.int .u64 (p.tmod 512), .int .u64 ((p / 512).tmod 512), .int .u64 ((p / 512 / 512).tmod 512), .int .u64 ((p / 512 / 512 / 512).tmod 512), .int .u64 ((p / 512 / 512 / 512 / 512).tmod 512), .int .u64 ((p / 512 / 512 / 512 / 512 / 512).tmod 512), .int .u64 ((p / 512 / 512 / 512 / 512 / 512 / 512).tmod 512)]]) (by simp [results, Try.results5, go_sem]) rfl
    ⟨⟨_, _, _, _, _, _, _, rfl⟩, ((Below.refl _ _).alloc (Nat.le_refl _) _).drew⟩
/-- the block of h among n blocks -/
def loc (h n : Int) : Int := h * n / 4294967296
set_option maxHeartbeats 800000 in
theorem zzlocate (h n : Int) (h0 : 0 ≤ h) (h1 : h < 4294967296) (n0 : 0 ≤ n) (n1 : n ≤ 4294967296) (w : World) :
    Calls Try.prog 4 #[.int .u32 h, .int .i64 n] w fun e w' =>
      (∃ u0 u1 u2 u3 u4 u5 u6 : Int, e = .returned (.tuple #[.int .i64 (loc h n), .agg #[.int .u64 u0, .int .u64 u1, .int .u64 u2, .int .u64 u3, .int .u64 u4, .int .u64 u5, .int .u64 u6]])) ∧ Below w.heap.size w w' := by
  go_enter Try.func4, Try.ntmps4
  go_wp2_with fail
  refine (locate h n h0 h1 n0 n1 _).mono ?_
  rintro e w1 ⟨⟨u0, u1, u2, u3, u4, u5, u6, rfl⟩, hb⟩
  have hz : w.heap.size < w1.heap.size := by have := hb.size; simp at this; omega
  have hc : ∀ o, w1.cell? ⟨w.heap.size, o, none⟩ = (w.alloc (.cells #[.int .u64 0, .int .u64 0, .int .u64 0, .int .u64 0, .int .u64 0, .int .u64 0, .int .u64 0] 24)).cell? ⟨w.heap.size, o, none⟩ := fun o => hb.cell (p := ⟨w.heap.size, o, none⟩) (by simp)
  have hf : ∀ o, w1.frozen? ⟨w.heap.size, o, none⟩ = (w.alloc (.cells #[.int .u64 0, .int .u64 0, .int .u64 0, .int .u64 0, .int .u64 0, .int .u64 0, .int .u64 0] 24)).frozen? ⟨w.heap.size, o, none⟩ := fun o => hb.frozen (p := ⟨w.heap.size, o, none⟩) (by simp)
  have hl : Hid (h * n / 4294967296 = loc h n) := rfl
  generalize h * n / 4294967296 = q at *
  go_wp2
  have hl := hl.out
  subst hl
  refine bodyPost_ret (v := .tuple #[.int .i64 (loc h n), .agg #[.int .u64 u0, .int .u64 u1, .int .u64 u2, .int .u64 u3, .int .u64 u4, .int .u64 u5, .int .u64 u6]]) (by simp [results, Try.results4, go_sem, hc]) rfl ⟨⟨_, _, _, _, _, _, _, rfl⟩, ?_⟩
  have h1 : Below w.heap.size w w1 := (((Below.refl _ _).alloc (Nat.le_refl _) _).trans (hb.mono (by simp)))
  exact ((((((h1.setCell (Nat.le_refl _) _).setCell (Nat.le_refl _) _).setCell (Nat.le_refl _) _).setCell (Nat.le_refl _) _).setCell (Nat.le_refl _) _).setCell (Nat.le_refl _) _).setCell (Nat.le_refl _) _
theorem loc_bd (h n : Int) (h0 : 0 ≤ h) (h1 : h < 4294967296) (n0 : 0 ≤ n) (n1 : n ≤ 4294967296) : 0 ≤ loc h n ∧ loc h n ≤ 4294967296 := quot_bd h n h0 h1 n0 n1
theorem loc_mono (a b n : Int) (h : a ≤ b) (n0 : 0 ≤ n) : loc a n ≤ loc b n :=
  Int.ediv_le_ediv (by omega) (Int.mul_le_mul_of_nonneg_right h n0)
theorem loc_half (a n : Int) : loc a (n * 2) / 2 = loc a n := by
  unfold loc
  rw [show a * (n * 2) = (a * n) * 2 by rw [Int.mul_assoc]]
  generalize a * n = x
  omega
theorem pw_bd (k : Int) (k0 : 0 ≤ k) (k1 : k ≤ 32) : 0 ≤ wrap64 (2 ^ k.toNat) ∧ wrap64 (2 ^ k.toNat) ≤ 4294967296 := by
  obtain ⟨m, rfl⟩ := Int.eq_ofNat_of_zero_le k0
  rw [Int.toNat_natCast]
  have : ∀ m : Nat, m < 33 → 0 ≤ wrap64 (2 ^ m) ∧ wrap64 (2 ^ m) ≤ 4294967296 := by decide +kernel
  exact this m (by omega)
theorem pw_eq (m : Nat) (h : m ≤ 32) : wrap64 (2 ^ m) = 2 ^ m := by
  have : ∀ m : Nat, m < 33 → wrap64 (2 ^ m) = 2 ^ m := by decide +kernel
  exact this m (by omega)
theorem loc_pow (a k : Int) (k0 : 0 ≤ k) (k1 : k ≤ 32) : loc a (wrap64 (2 ^ k.toNat)) = a / 2 ^ (32 - k).toNat := by
  obtain ⟨m, rfl⟩ := Int.eq_ofNat_of_zero_le k0
  rw [Int.toNat_natCast, pw_eq m (by omega)]
  unfold loc
  have hm : m ≤ 32 := by omega
  have e1 : (32 - (m : Int)).toNat = 32 - m := by omega
  have e2 : (4294967296 : Int) = 2 ^ (32 - m) * 2 ^ m := by
    rw [← Int.pow_add, Nat.sub_add_cancel hm]; decide
  rw [e1, e2]
  exact Int.mul_ediv_mul_of_pos_left a _ (Int.pow_pos (by decide))
theorem ret_bool {a b : Bool} (h : a = b) : Ending.returned (.bool a) = .returned (.bool b) := by rw [h]
theorem bal {a w : World} (h : Below a.heap.size a w) (o : Obj) : Below a.heap.size a (w.alloc o) := h.alloc h.size o
theorem btr {a b c : World} (h : Below a.heap.size a b) (k : Below b.heap.size b c) : Below a.heap.size a c := h.trans (k.mono h.size)
set_option maxHeartbeats 1600000 in
theorem law_le (a b n k : Int) (a0 : 0 ≤ a) (a1 : a < 4294967296) (b0 : 0 ≤ b) (b1 : b < 4294967296) (n0 : 0 ≤ n) (n1 : n ≤ 2147483648) (k0 : 0 ≤ k) (k1 : k ≤ 32) (hab : a ≤ b) (w : World) :
    Calls Try.prog 3 #[.int .u32 a, .int .u32 b, .int .i64 n, .int .u8 k] w fun e w' => e = .returned (.bool true) ∧ Below w.heap.size w w' := by
  obtain ⟨x0, x1⟩ := loc_bd a n a0 a1 n0 (by omega)
  obtain ⟨y0, y1⟩ := loc_bd b n b0 b1 n0 (by omega)
  obtain ⟨z0, z1⟩ := loc_bd a (n * 2) a0 a1 (by omega) (by omega)
  have hm := loc_mono a b n hab n0
  have hh := loc_half a n
  go_enter Try.func3, Try.ntmps3
  go_wp2_with fail
  refine (zzlocate a n a0 a1 n0 (by omega) _).mono ?_
  rintro e w1 ⟨⟨u0, u1, u2, u3, u4, u5, u6, rfl⟩, hb1⟩
  go_wp2_with fail
  refine (zzlocate b n b0 b1 n0 (by omega) _).mono ?_
  rintro e w2 ⟨⟨v0, v1, v2, v3, v4, v5, v6, rfl⟩, hb2⟩
  go_wp2_with fail
  refine (zzlocate a n a0 a1 n0 (by omega) _).mono ?_
  rintro e w3 ⟨⟨s0, s1, s2, s3, s4, s5, s6, rfl⟩, hb3⟩
  go_wp2_with fail
  refine (zzlocate a (n * 2) a0 a1 (by omega) (by omega) _).mono ?_
  rintro e w4 ⟨⟨r0, r1, r2, r3, r4, r5, r6, rfl⟩, hb4⟩
  go_wp2_with fail
  obtain ⟨p0, p1⟩ := pw_bd k k0 k1
  refine (zzlocate a _ a0 a1 p0 p1 _).mono ?_
  rintro e w5 ⟨⟨q0, q1, q2, q3, q4, q5, q6, rfl⟩, hb5⟩
  obtain ⟨g0, g1⟩ := loc_bd a _ a0 a1 p0 p1
  go_wp2
  go_ret
  exact ⟨ret_bool (by rw [loc_pow a k k0 k1]; exact beq_self_eq_true _), bal (btr (bal (btr (bal (btr (bal (btr (bal hb1 _) hb2) _) hb3) _) hb4) _) hb5) _⟩
set_option maxHeartbeats 1600000 in
theorem law_gt (a b n k : Int) (a0 : 0 ≤ a) (a1 : a < 4294967296) (b0 : 0 ≤ b) (b1 : b < 4294967296) (n0 : 0 ≤ n) (n1 : n ≤ 2147483648) (k0 : 0 ≤ k) (k1 : k ≤ 32) (hab : b < a) (w : World) :
    Calls Try.prog 3 #[.int .u32 a, .int .u32 b, .int .i64 n, .int .u8 k] w fun e w' => e = .returned (.bool true) ∧ Below w.heap.size w w' := by
  obtain ⟨x0, x1⟩ := loc_bd a n a0 a1 n0 (by omega)
  obtain ⟨y0, y1⟩ := loc_bd b n b0 b1 n0 (by omega)
  obtain ⟨z0, z1⟩ := loc_bd a (n * 2) a0 a1 (by omega) (by omega)
  have hm := loc_mono b a n (by omega) n0
  have hh := loc_half a n
  go_enter Try.func3, Try.ntmps3
  go_wp2_with fail
  refine (zzlocate b n b0 b1 n0 (by omega) _).mono ?_
  rintro e w1 ⟨⟨u0, u1, u2, u3, u4, u5, u6, rfl⟩, hb1⟩
  go_wp2_with fail
  refine (zzlocate a n a0 a1 n0 (by omega) _).mono ?_
  rintro e w2 ⟨⟨v0, v1, v2, v3, v4, v5, v6, rfl⟩, hb2⟩
  go_wp2_with fail
  refine (zzlocate a n a0 a1 n0 (by omega) _).mono ?_
  rintro e w3 ⟨⟨s0, s1, s2, s3, s4, s5, s6, rfl⟩, hb3⟩
  go_wp2_with fail
  refine (zzlocate a (n * 2) a0 a1 (by omega) (by omega) _).mono ?_
  rintro e w4 ⟨⟨r0, r1, r2, r3, r4, r5, r6, rfl⟩, hb4⟩
  go_wp2_with fail
  obtain ⟨p0, p1⟩ := pw_bd k k0 k1
  refine (zzlocate a _ a0 a1 p0 p1 _).mono ?_
  rintro e w5 ⟨⟨q0, q1, q2, q3, q4, q5, q6, rfl⟩, hb5⟩
  obtain ⟨g0, g1⟩ := loc_bd a _ a0 a1 p0 p1
  go_wp2
  go_ret
  exact ⟨ret_bool (by rw [loc_pow a k k0 k1]; exact beq_self_eq_true _), bal (btr (bal (btr (bal (btr (bal (btr (bal hb1 _) hb2) _) hb3) _) hb4) _) hb5) _⟩
set_option maxHeartbeats 1600000 in
theorem law_out (a b n k : Int) (h : n < 0 ∨ 2147483648 < n ∨ 32 < k) (w : World) :
    Calls Try.prog 3 #[.int .u32 a, .int .u32 b, .int .i64 n, .int .u8 k] w fun e w' => e = .returned (.bool true) ∧ w' = w := by
  by_cases h1 : n < 0
  · go_enter Try.func3, Try.ntmps3
    go_wp2
    go_ret
    exact ⟨rfl, rfl⟩
  by_cases h2 : 2147483648 < n
  · go_enter Try.func3, Try.ntmps3
    go_wp2
    go_ret
    exact ⟨rfl, rfl⟩
  have h3 : 32 < k := by omega
  clear h
  go_enter Try.func3, Try.ntmps3
  go_wp2
  go_ret
  exact ⟨rfl, rfl⟩
theorem law (a b n k : Int) (a0 : 0 ≤ a) (a1 : a < 4294967296) (b0 : 0 ≤ b) (b1 : b < 4294967296) (k0 : 0 ≤ k) (w : World) :
    Calls Try.prog 3 #[.int .u32 a, .int .u32 b, .int .i64 n, .int .u8 k] w fun e w' => e = .returned (.bool true) ∧ Below w.heap.size w w' := by
  by_cases h : n < 0 ∨ 2147483648 < n ∨ 32 < k
  · exact (law_out a b n k h w).mono fun e w' ⟨he, hw⟩ => ⟨he, by rw [hw]; exact Below.refl _ _⟩
  · by_cases hab : a ≤ b
    · exact law_le a b n k a0 a1 b0 b1 (by omega) (by omega) k0 (by omega) hab w
    · exact law_gt a b n k a0 a1 b0 b1 (by omega) (by omega) k0 (by omega) (by omega) w
end Go.Proofs.Qxb6617106a
