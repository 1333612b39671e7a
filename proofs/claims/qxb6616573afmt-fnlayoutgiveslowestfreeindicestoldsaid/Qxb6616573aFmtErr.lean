import Derived.Test.Qxb6616573aFmtSpace
import Derived.Stop.CallBack
import Derived.Stop.IfaceNil
import GoSem.ClaimData
import Derived.Deep.RegionHeld3
namespace Go.Proofs.Qxb6616573aFmt
open Go.RowKit
open Go.Extern.Stop Go.Stop Go.Extern
set_option linter.unusedVariables false
set_option linter.unusedSimpArgs false
theorem call22 (args : Array Value) (w : World) : (callFunc 22 args).run Tryf.prog w = (FmtCalls.sprintf #[9, 61] #[9] args).run Tryf.prog w :=
  run_callFunc_next Tryf.func22 (by kernel_rfl) (by kernel_rfl) (by kernel_rfl) args w
theorem guardF (name : String) (w : World) : (FmtStop.guard name).run Tryf.prog w = .ok () w := by kernel_rfl
theorem nextTurns : Extern.next FmtCalls.turnsRow = some (FmtCalls.begun #[] #[]) := by kernel_rfl
theorem act3 (name : String) (x : Value) (w : World) : (FmtCalls.act name false 100 false (.iface 3 x)).run Tryf.prog w = .ok (.closed false) w := by kernel_rfl
def shape3 : List UInt8 := [5, 3, 0, 0, 0, 0, 0, 0, 0, 105, 110, 116]
theorem op3 (name : String) (x : Int) (w : World) : (FmtStop.operand name false 100 false (.iface 3 (.int .i64 x))).run Tryf.prog w = .ok (shape3, Go.Extern.Stop.digits 8 (x % 2 ^ 64).toNat) w := by kernel_rfl
theorem str3 (w : World) : (typeStr 3).run Tryf.prog w = .ok "int" w := by kernel_rfl
attribute [local go_sem] call22 guardF act3 op3 str3
set_option maxHeartbeats 800000 in
theorem wp_sprintf1 (F : Stop.Interp) (fm : ByteArray) (b : Nat) (x : Int) (w : World) {o : Oper} {a : Act} {K : Act → World → Prop} {Q : Exit → Act → World → Prop} (s t : Operand)
    (ho : o.op = .call { callee := .value (.func 22), args := #[s, t], argTypes := #[9, 61] }) (hs : a.eval s = .string fm) (ht : a.eval t = .slice (some ⟨b, 0, none⟩) 1 1)
    (hF : F.answers w.tape) (h1 : FmtStop.printed? fm 1 = some [(0, 100, false)]) (h2 : ∀ W, (FmtDoors.printed fm 1).run Tryf.prog W = .ok [(0, 100, false)] W)
    (c0 : w.cell? ⟨b, 0, none⟩ = some (.iface 3 (.int .i64 x)))
    (h : ∀ (msg : ByteArray) (n : Nat), K (a.put o.dst (.string msg)) (w.drewN n)) : o.wp Tryf.prog a w K Q := by
  have hF' := answers_open hF
  unfold Oper.wp execOp
  simp only [ho, resolve, invoke, Sem.run_bind, Sem.run_pure, Result.andThen_ok, List.map_toArray, List.map_cons, List.map_nil, hs, ht]
  go_simp
  apply rows_value nextTurns
  case hr => go_simp; exact ⟨rfl, rfl⟩
  case h => exact h _ 1
set_option maxHeartbeats 800000 in
theorem wp_sprintf2 (F : Stop.Interp) (fm : ByteArray) (b : Nat) (x y : Int) (w : World) {o : Oper} {a : Act} {K : Act → World → Prop} {Q : Exit → Act → World → Prop} (s t : Operand)
    (ho : o.op = .call { callee := .value (.func 22), args := #[s, t], argTypes := #[9, 61] }) (hs : a.eval s = .string fm) (ht : a.eval t = .slice (some ⟨b, 0, none⟩) 2 2)
    (hF : F.answers w.tape) (h1 : FmtStop.printed? fm 2 = some [(0, 100, false), (1, 100, false)]) (h2 : ∀ W, (FmtDoors.printed fm 2).run Tryf.prog W = .ok [(0, 100, false), (1, 100, false)] W)
    (c0 : w.cell? ⟨b, 0, none⟩ = some (.iface 3 (.int .i64 x))) (c1 : w.cell? ⟨b, 1, none⟩ = some (.iface 3 (.int .i64 y)))
    (h : ∀ (msg : ByteArray) (n : Nat), K (a.put o.dst (.string msg)) (w.drewN n)) : o.wp Tryf.prog a w K Q := by
  have hF' := answers_open hF
  unfold Oper.wp execOp
  simp only [ho, resolve, invoke, Sem.run_bind, Sem.run_pure, Result.andThen_ok, List.map_toArray, List.map_cons, List.map_nil, hs, ht]
  go_simp
  apply rows_value nextTurns
  case hr => go_simp; exact ⟨rfl, rfl⟩
  case h => exact h _ 1
theorem step_sprintf1 (F : Stop.Interp) (fm : ByteArray) (b : Nat) (x : Int) (w : World) {ops : Array Oper} {o : Oper} {a : Act} {K : Act → World → Prop} {Q : Exit → Act → World → Prop} {E : Prop} (hgd : o.guard = none) (s t : Operand)
    (ho : o.op = .call { callee := .value (.func 22), args := #[s, t], argTypes := #[9, 61] }) (hs : a.eval s = .string fm) (ht : a.eval t = .slice (some ⟨b, 0, none⟩) 1 1)
    (hF : F.answers w.tape) (h1 : FmtStop.printed? fm 1 = some [(0, 100, false)]) (h2 : ∀ W, (FmtDoors.printed fm 1).run Tryf.prog W = .ok [(0, 100, false)] W)
    (c0 : w.cell? ⟨b, 0, none⟩ = some (.iface 3 (.int .i64 x)))
    (h : ∀ (msg : ByteArray) (n : Nat), K (a.put o.dst (.string msg)) (w.drewN n)) : if Region.wanted o (yielded ops a.tmps) = true then Oper.wp Tryf.prog o a w K Q else E := by
  have hw : Region.wanted o (yielded ops a.tmps) = true := by simp [Region.wanted, hgd]
  rw [if_pos hw]
  exact wp_sprintf1 F fm b x w s t ho hs ht hF h1 h2 c0 h
theorem step_sprintf2 (F : Stop.Interp) (fm : ByteArray) (b : Nat) (x y : Int) (w : World) {ops : Array Oper} {o : Oper} {a : Act} {K : Act → World → Prop} {Q : Exit → Act → World → Prop} {E : Prop} (hgd : o.guard = none) (s t : Operand)
    (ho : o.op = .call { callee := .value (.func 22), args := #[s, t], argTypes := #[9, 61] }) (hs : a.eval s = .string fm) (ht : a.eval t = .slice (some ⟨b, 0, none⟩) 2 2)
    (hF : F.answers w.tape) (h1 : FmtStop.printed? fm 2 = some [(0, 100, false), (1, 100, false)]) (h2 : ∀ W, (FmtDoors.printed fm 2).run Tryf.prog W = .ok [(0, 100, false), (1, 100, false)] W)
    (c0 : w.cell? ⟨b, 0, none⟩ = some (.iface 3 (.int .i64 x))) (c1 : w.cell? ⟨b, 1, none⟩ = some (.iface 3 (.int .i64 y)))
    (h : ∀ (msg : ByteArray) (n : Nat), K (a.put o.dst (.string msg)) (w.drewN n)) : if Region.wanted o (yielded ops a.tmps) = true then Oper.wp Tryf.prog o a w K Q else E := by
  have hw : Region.wanted o (yielded ops a.tmps) = true := by simp [Region.wanted, hgd]
  rw [if_pos hw]
  exact wp_sprintf2 F fm b x y w s t ho hs ht hF h1 h2 c0 c1 h
set_option maxHeartbeats 800000 in
theorem errorf1 (F : Stop.Interp) (file fm : ByteArray) (line col : Int) (b : Nat) (x : Int) (w : World) (hF : F.answers w.tape) (h1 : FmtStop.printed? fm 1 = some [(0, 100, false)]) (h2 : ∀ W, (FmtDoors.printed fm 1).run Tryf.prog W = .ok [(0, 100, false)] W)
    (hb : b < w.heap.size) (c0 : w.cell? ⟨b, 0, none⟩ = some (.iface 3 (.int .i64 x))) :
    Calls Tryf.prog 16 #[.string file, .agg #[.int .i64 line, .int .i64 col], .string fm, .slice (some ⟨b, 0, none⟩) 1 1] w fun e w' =>
      ∃ msg : ByteArray, e = .returned (.pointer (some ⟨w.heap.size + 1, 0, none⟩)) ∧ Blk w' (w.heap.size + 1) 36 [.string file, .int .i64 line, .int .i64 col, .string msg, .string ⟨#[]⟩] ∧ Below w.heap.size w w' ∧ w'.heap.size = w.heap.size + 2 := by
  go_enter Tryf.func16, Tryf.ntmps16
  go_wp2
  go_region_held3 (fun w' => w'.cell? ⟨w.heap.size, 0, none⟩ = some (.int .i64 line) ∧ w'.cell? ⟨w.heap.size, 1, none⟩ = some (.int .i64 col)) (go_keep) ((refine step_sprintf1 F fm b x _ (by rfl) _ _ (by rfl) (by rfl) (by rfl) (by exact hF) h1 h2 (by go_simp) ?_; intro msg n))
  go_wp2
  go_ret
  refine ⟨msg, rfl, ?_, (((Below.refl _ _).alloc (Nat.le_refl _) _).trans (below_drewN (Below.refl _ _) _)).alloc (by simp) _, by simp⟩
  have := Blk.new ((w.alloc (.cells #[.int .i64 line, .int .i64 col] 34)).drewN (1 + n)) [.string file, .int .i64 line, .int .i64 col, .string msg, .string ⟨#[]⟩] 36
  simpa using this
set_option maxHeartbeats 800000 in
theorem errorf2 (F : Stop.Interp) (file fm : ByteArray) (line col : Int) (b : Nat) (x y : Int) (w : World) (hF : F.answers w.tape) (h1 : FmtStop.printed? fm 2 = some [(0, 100, false), (1, 100, false)]) (h2 : ∀ W, (FmtDoors.printed fm 2).run Tryf.prog W = .ok [(0, 100, false), (1, 100, false)] W)
    (hb : b < w.heap.size) (c0 : w.cell? ⟨b, 0, none⟩ = some (.iface 3 (.int .i64 x))) (c1 : w.cell? ⟨b, 1, none⟩ = some (.iface 3 (.int .i64 y))) :
    Calls Tryf.prog 16 #[.string file, .agg #[.int .i64 line, .int .i64 col], .string fm, .slice (some ⟨b, 0, none⟩) 2 2] w fun e w' =>
      ∃ msg : ByteArray, e = .returned (.pointer (some ⟨w.heap.size + 1, 0, none⟩)) ∧ Blk w' (w.heap.size + 1) 36 [.string file, .int .i64 line, .int .i64 col, .string msg, .string ⟨#[]⟩] ∧ Below w.heap.size w w' ∧ w'.heap.size = w.heap.size + 2 := by
  go_enter Tryf.func16, Tryf.ntmps16
  go_wp2
  go_region_held3 (fun w' => w'.cell? ⟨w.heap.size, 0, none⟩ = some (.int .i64 line) ∧ w'.cell? ⟨w.heap.size, 1, none⟩ = some (.int .i64 col)) (go_keep) ((refine step_sprintf2 F fm b x y _ (by rfl) _ _ (by rfl) (by rfl) (by rfl) (by exact hF) h1 h2 (by go_simp) (by go_simp) ?_; intro msg n))
  go_wp2
  go_ret
  refine ⟨msg, rfl, ?_, (((Below.refl _ _).alloc (Nat.le_refl _) _).trans (below_drewN (Below.refl _ _) _)).alloc (by simp) _, by simp⟩
  have := Blk.new ((w.alloc (.cells #[.int .i64 line, .int .i64 col] 34)).drewN (1 + n)) [.string file, .int .i64 line, .int .i64 col, .string msg, .string ⟨#[]⟩] 36
  simpa using this
end Go.Proofs.Qxb6616573aFmt
