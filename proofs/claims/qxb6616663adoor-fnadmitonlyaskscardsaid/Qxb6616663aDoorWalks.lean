import Derived.Test.Qxb6616663aDoorRows
import Derived.WalkKit
import Derived.WalkSpells
import Derived.WalkLawsBesides
import Derived.Deep.QuietTactic
import Derived.BigQuiet
import Derived.Deep.RegionWith
import Derived.RegionTactic
import Derived.ChangeAlike
namespace Go.Proofs.Qxb6616663aDoor
open Go.RowKit
theorem extLoad : Extern.find Tryd.f12 = some (Extern.Atomic.loadT (.int .u32)) := by rfl
theorem extStore : Extern.find Tryd.f10 = some Extern.Atomic.storeT := by rfl
theorem load32 {a : Addr} {x : Int} {w : World} (hc : w.cell? a = some (.int .u32 x)) : (callFunc 12 #[.pointer (some a)]).run Tryd.prog w = .ok (.value (.int .u32 x)) w :=
  run_call_load Tryd.func12 (by kernel_rfl) (by kernel_rfl) (by kernel_rfl) .u32 extLoad hc
theorem store32 {a : Addr} {y : Int} {u : Value} {w : World} (hc : w.cell? a = some u) (hz : w.frozen? a = false) : (callFunc 10 #[.pointer (some a), .int .u32 y]).run Tryd.prog w = .ok (.value (.tuple #[])) (w.setCell a (.int .u32 y)) :=
  run_call_store Tryd.func10 (by kernel_rfl) (by kernel_rfl) (by kernel_rfl) extStore hc hz
def b01 (b : Bool) : Int := if b then 1 else 0
set_option maxHeartbeats 400000 in
theorem b32 (b : Bool) (w : World) : Calls Tryd.prog 11 #[.bool b] w fun e w' => e = .returned (.int .u32 (b01 b)) ∧ w' = w := by
  cases b
  all_goals
    go_enter Tryd.func11, Tryd.ntmps11
    go_wp2
    go_ret
    exact ⟨rfl, rfl⟩
set_option maxHeartbeats 400000 in
theorem bload (a : Addr) (b : Bool) (w : World) (hc : w.cell? a = some (.int .u32 (b01 b))) : Calls Tryd.prog 9 #[.pointer (some a)] w fun e w' => e = .returned (.bool b) ∧ w' = w := by
  have hl := load32 hc
  go_enter Tryd.func9, Tryd.ntmps9
  go_wp2
  go_ret
  exact ⟨by cases b <;> rfl, rfl⟩
set_option maxHeartbeats 400000 in
theorem bstore (a : Addr) (b : Bool) (u : Value) (w : World) (hc : w.cell? a = some u) (hz : w.frozen? a = false) : Calls Tryd.prog 7 #[.pointer (some a), .bool b] w fun e w' => e = .returned (.tuple #[]) ∧ w' = w.drew.setCell a (.int .u32 (b01 b)) := by
  have hs : ∀ W : World, W.cell? a = some u → W.frozen? a = false → (callFunc 10 #[.pointer (some a), .int .u32 (b01 b)]).run Tryd.prog W = .ok (.value (.tuple #[])) (W.setCell a (.int .u32 (b01 b))) := fun W h1 h2 => store32 h1 h2
  go_enter Tryd.func7, Tryd.ntmps7
  go_region_with (go_at_call 11; refine (b32 _ _).mono ?_; rintro e w' ⟨rfl, rfl⟩)
  all_goals
    go_wp2
    go_end0
    exact ⟨rfl, rfl⟩
set_option maxHeartbeats 800000 in
theorem newtx (c d : Bool) (w : World) : Calls Tryd.prog 4 #[.bool c, .bool d] w fun e w' => e = .returned (.pointer (some ⟨w.heap.size, 0, none⟩)) ∧ Below w.heap.size w w' ∧
    w'.cell? ⟨w.heap.size, 36, none⟩ = some (.int .u32 (b01 c)) ∧ w'.cell? ⟨w.heap.size, 35, none⟩ = some (.int .u32 (b01 d)) := by
  go_enter Tryd.func4, Tryd.ntmps4
  go_wp2_with fail
  refine (bstore _ c (.int .u32 0) _ (by go_simp) (by go_simp)).mono ?_
  rintro e w' ⟨rfl, rfl⟩
  go_wp2_with fail
  refine (bstore _ d (.int .u32 0) _ (by go_simp) (by go_simp)).mono ?_
  rintro e w' ⟨rfl, rfl⟩
  go_wp2
  go_ret
  refine ⟨rfl, ?_, by go_simp, by go_simp⟩
  exact (((Below.refl _ _).alloc (Nat.le_refl _) _).drew).drew
def ans (c d : Bool) (T : TypeId) (x : Value) : Value := if c || d then .iface T x else .nilIface
set_option maxHeartbeats 800000 in
theorem admit (bk : Nat) (c d : Bool) (T : TypeId) (x : Value) (w : World) (hc : w.cell? ⟨bk, 36, none⟩ = some (.int .u32 (b01 c))) (hd : w.cell? ⟨bk, 35, none⟩ = some (.int .u32 (b01 d))) (hg : w.cell? ⟨0, 0, none⟩ = some (.iface T x)) :
    Calls Tryd.prog 8 #[.pointer (some ⟨bk, 0, none⟩)] w fun e w' => e = .returned (ans c d T x) ∧ w' = w := by
  cases c <;> cases d
  all_goals
    go_enter Tryd.func8, Tryd.ntmps8
    go_wp2_with (go_at_call 9; refine (bload _ _ _ (by assumption)).mono ?_; rintro e w' ⟨rfl, rfl⟩)
    go_ret
    exact ⟨rfl, rfl⟩
set_option maxHeartbeats 800000 in
theorem zzadmit (bk : Nat) (c d : Bool) (T : TypeId) (x : Value) (w : World) (hc : w.cell? ⟨bk, 36, none⟩ = some (.int .u32 (b01 c))) (hd : w.cell? ⟨bk, 35, none⟩ = some (.int .u32 (b01 d))) (hg : w.cell? ⟨0, 0, none⟩ = some (.iface T x)) :
    Calls Tryd.prog 5 #[.pointer (some ⟨bk, 0, none⟩)] w fun e w' => e = .returned (ans c d T x) ∧ w' = w := by
  go_enter Tryd.func5, Tryd.ntmps5
  go_wp2_with fail
  refine (admit bk c d T x _ hc hd hg).mono ?_
  rintro e w' ⟨rfl, rfl⟩
  go_wp2
  go_ret
  exact ⟨rfl, rfl⟩
theorem neq_yes (T : TypeId) (x : Value) (w : World) : (binOp .neq 25 (.iface T x) .nilIface).run Tryd.prog w = .ok (.bool true) w :=
  run_neq_held_nil w 25 T x (by kernel_rfl)
theorem neq_no (w : World) : (binOp .neq 25 .nilIface .nilIface).run Tryd.prog w = .ok (.bool false) w := by kernel_rfl
set_option maxHeartbeats 800000 in
theorem flags (bk : Nat) (c d : Bool) (w : World) (hc : w.cell? ⟨bk, 36, none⟩ = some (.int .u32 (b01 c))) (hd : w.cell? ⟨bk, 35, none⟩ = some (.int .u32 (b01 d))) :
    Calls Tryd.prog 6 #[.pointer (some ⟨bk, 0, none⟩)] w fun e w' => e = .returned (.tuple #[.bool c, .bool d]) ∧ ∃ n, w' = w.drewN n := by
  go_enter Tryd.func6, Tryd.ntmps6
  go_wp2
  go_quiet ((go_at_call 9; exact Calls.quiet_of_same (bload _ _ _ (by assumption))))
  go_wp2
  go_ret2
  exact ⟨rfl, _, rfl⟩
set_option maxHeartbeats 800000 in
theorem law (c d : Bool) (T : TypeId) (x : Value) (w : World) (h0 : 0 < w.heap.size) (hg : w.cell? ⟨0, 0, none⟩ = some (.iface T x)) :
    Calls Tryd.prog 3 #[.bool c, .bool d] w fun e w' => e = .returned (.bool true) ∧ Below w.heap.size w w' := by
  go_enter Tryd.func3, Tryd.ntmps3
  go_wp2_with fail
  refine (newtx c d _).mono ?_
  rintro e w1 ⟨rfl, hb, hc, hd⟩
  have hg1 : w1.cell? ⟨0, 0, none⟩ = some (.iface T x) := by rw [hb.cell (by exact h0)]; exact hg
  have hy := fun W => neq_yes T x W
  have hn := neq_no
  go_wp2_with fail
  refine (zzadmit _ c d T x _ hc hd hg1).mono ?_
  rintro e w2 ⟨rfl, rfl⟩
  cases c <;> cases d
  all_goals
    simp only [ans, Bool.or_false, Bool.or_true, Bool.or_self, if_true, if_false, Bool.false_eq_true]
    go_wp2_with fail
    refine (zzadmit _ _ _ T x _ hc hd hg1).mono ?_
    rintro e w2 ⟨rfl, rfl⟩
    simp only [ans, Bool.or_false, Bool.or_true, Bool.or_self, if_true, if_false, Bool.false_eq_true]
    go_wp2_with fail
    refine (flags _ _ _ _ hc hd).mono ?_
    rintro e w2 ⟨rfl, nq, rfl⟩
    go_wp2
    go_ret
    exact ⟨rfl, hb.os, hb.tape, hb.output, hb.size, hb.block⟩
end Go.Proofs.Qxb6616663aDoor
